/-
  PROOF OF 'Rows.FnRecordsIsFaithfulOwnCopySaid'.
-/
import Derived.Test.Qxb6617509aMain
import Derived.ProofKit
import Derived.OpenShut
import Derived.ChangeOld
import Derived.Deep.SlicePairs
namespace Go.Proofs.Qxb6617509a
set_option linter.unusedVariables false
open Go.ChangeShapes Go.WideShapes Go.ChangeAt Go.RowKit Go.Deep

theorem Try.own : ownKnob Try.prog.godebug = none := by kernel_rfl
theorem Try.laidOut : laidOutB Try.prog = true := by kernel_rfl

theorem arg22 {H : Type} {enc : TypeId × Value → H} {W : World} {a : Option Addr} {len cap : Nat} {d : DataW H} {p : List MemPlace} (h : DataW.Trod enc Try.prog W 0 (fun _ => true) true 22 (.slice a len cap) d p) :
    (a = none ∧ len = 0 ∧ cap = 0) ∨ ∃ x S N, a = some x ∧ Rd W (.slice (some x) len cap) len S N ∧ ∀ j, j < len → (S j).size ≤ 9223372036854775807 := by
  obtain ⟨fuel, hf⟩ := h
  rcases open_slice_pairs Try.underlying22 Try.underlying25 Try.cells25 rfl rfl Try.cells9 Try.cells3 hf with ⟨hcs, _⟩ | ⟨x, l, c, m, n, V0, V1, D0, D1, P0, P1, hcs, _, hl, hm, hmm, _, hall⟩
  · simp [Value.cells] at hcs
    exact .inl hcs
  · simp [Value.cells] at hcs
    obtain ⟨rfl, rfl, rfl⟩ := hcs
    right
    have hlm : len ≤ m := by rw [hmm]; split <;> omega
    have each : ∀ i, i < len → ∃ q : ByteArray × Int, V0 i = .string q.1 ∧ V1 i = .int .i64 q.2 ∧ q.1.size ≤ maxLen := by
      intro i hi
      obtain ⟨_, _, h0, h1⟩ := hall i (by omega)
      obtain ⟨s, e0, _, hs⟩ := DataW.trod_string Try.underlying9 h0
      obtain ⟨y, e1, _⟩ := DataW.trod_int Try.underlying3 h1
      exact ⟨(s, y), by simpa using e0, by simpa using e1, hs⟩
    refine ⟨x, fun i => if hi : i < len then (Classical.choose (each i hi)).1 else ByteArray.empty, fun i => if hi : i < len then (Classical.choose (each i hi)).2 else 0, rfl, ⟨some x, cap, rfl, hl, by simpa [maxLen] using hm, (fun h => by cases h), fun h0 => ?_⟩, fun j hj => ?_⟩
    · obtain ⟨b, o, spot⟩ := x
      have hspot : spot = none := by simpa [Addr.add] using World.cell?_spot (hall 0 (by omega)).1
      subst hspot
      refine ⟨b, o, rfl, fun j hj => ?_⟩
      obtain ⟨c0, c1, _, _⟩ := hall j (by omega)
      obtain ⟨e0, e1, _⟩ := Classical.choose_spec (each j hj)
      dsimp only
      rw [dif_pos hj, dif_pos hj, ← e0, ← e1]
      rw [add_plain] at c0 c1
      exact ⟨c0, by rw [Nat.add_assoc]; exact c1⟩
    · dsimp only
      rw [dif_pos hj]
      simpa [maxLen] using (Classical.choose_spec (each j hj)).2.2

theorem law_any {H : Type} {enc : TypeId × Value → H} {W : World} {a : Option Addr} {len cap : Nat} {d : DataW H} {p : List MemPlace} (h : DataW.Trod enc Try.prog W 0 (fun _ => true) true 22 (.slice a len cap) d p) :
    Calls Try.prog 3 #[.slice a len cap] W fun e w' => e = .returned (.bool true) ∧ Below W.heap.size W w' := by
  rcases arg22 h with ⟨rfl, rfl, rfl⟩ | ⟨x, S, N, rfl, hR, hS⟩
  · exact records_law_nil W
  · exact records_law_some hR hS

namespace fnRecordsIsFaithfulOwnCopy

set_option maxRecDepth 100000 in
theorem lifted (os : Os) (started : os.Started) (H : Type) (enc : TypeId × Value → H) :
    ReturnsInHanded {} Try.checked os 3 .any (Rows.fnRecordsIsFaithfulOwnCopySpec.pre6 enc Try.prog Try.f3 Rows.fnRecordsIsFaithfulOwnCopyRow.domain false) (Rows.fnRecordsIsFaithfulOwnCopySpec.post enc Try.prog Try.f3 false true false false) := by
  refine returnsInHanded_of_change (C := Try.checked) Try.own started (by kernel_rfl) Try.func3
    (ChangeSpec.witness6 (enc := enc) (C := Try.checked) false ⟨#[], #[.slice none 0 0], []⟩ 8 (by kernel_rfl) (by kernel_rfl) (by kernel_rfl) (by kernel_rfl)) ?_
  intro W base args ds gs before hval0 hW hcnd _
  have hval : ∀ (j : Nat) t v, Try.f3.params[j]? = some t → args[j]? = some v → Value.okWide Try.prog W .any base t v := hval0
  have hW' := hW
  obtain ⟨p, q, hA0, hV, rfl, hfz, hnd⟩ := hW
  have hA : DataW.TrodAll enc Try.prog W 0 (fun _ => true) true Try.f3.params.toList args.toList ds p := hA0
  rw [Try.params3] at hA hval
  obtain ⟨v0, vs0, d0, ds0, p0, q0, hargs, rfl, rfl, h0, r0⟩ := trodAll_cons hA
  obtain ⟨rfl, rfl, rfl⟩ := trodAll_nil r0
  obtain rfl : args = #[v0] := by cases args; simp_all
  obtain ⟨rfl, rfl⟩ := trodVars_none hV
  obtain ⟨a0, len0, cap0, rfl⟩ := okWide_slice Try.underlying22 (hval 0 22 v0 rfl rfl)
  have lt0 : ∀ x ∈ p0, x.block < W.heap.size := by obtain ⟨m, hm⟩ := h0; exact DataW.trod_lt m _ _ _ hm
  clear hA0 hval0
  refine (law_any h0).mono fun e W' ⟨he, bel⟩ => ?_
  subst he
  exact ⟨_, rfl, _, _, _, [], _, [], hW', trodAll_mk1 (shut_bool Try.underlying4 _), (trodAll_cons_mk (Below.trod Try.laidOut (by kernel_rfl) (of_decide_eq_true (by kernel_rfl)) h0 bel lt0) trodAll_mk0), rfl, bel.frame _, fun h => by cases h⟩

theorem over : Rows.fnRecordsIsFaithfulOwnCopyRow.holds Try.pinned (OpenSpec.ofChange Rows.fnRecordsIsFaithfulOwnCopySpec) :=
  OpenClaim.holds_of_wide 3 Try.f3 rfl rfl rfl rfl rfl rfl rfl ⟨rfl, rfl, rfl, rfl, rfl⟩ rfl rfl rfl rfl rfl (by kernel_rfl) Try.func3 (by kernel_rfl)
    (of_decide_eq_true (by kernel_rfl)) (by unfold Func.isWrapper; first | (rw [if_pos (by decide +kernel)]; kernel_rfl) | (rw [if_neg (by decide +kernel)]; exact ⟨rfl, rfl⟩))
    (fun os started H enc _ => lifted os started H enc)

/-- THE STATEMENT -/
theorem proved : Rows.FnRecordsIsFaithfulOwnCopySaid :=
  over
end fnRecordsIsFaithfulOwnCopy
end Go.Proofs.Qxb6617509a
