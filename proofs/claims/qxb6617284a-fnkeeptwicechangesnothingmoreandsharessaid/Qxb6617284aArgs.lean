/-
  The laws' arguments, opened: []int64 and [][]int64 as they came in.
-/
import Derived.Test.Qxb6617284aFits
import Derived.ProofKit
import Derived.OpenShut
import Derived.ChangeOld
import Derived.Deep.Matrix
namespace Go.Proofs.Qxb6617284a
set_option linter.unusedVariables false
open Go.ChangeShapes Go.WideShapes Go.ChangeAt Go.RowKit Go.Deep

theorem Try.own : ownKnob Try.prog.godebug = none := by kernel_rfl
theorem Try.laidOut : laidOutB Try.prog = true := by kernel_rfl

/-- A row of numbers, read up to its length. -/
theorem rd_of_row {W : World} {a : Addr} {len cap : Nat} {zs : List Int} (hl : len ≤ cap) (hm : cap ≤ maxLen) (hz : zs.length = cap) (hcell : ∀ i, i < zs.length → W.cell? (a.add i) = some (.int .i64 (zs.getD i 0))) :
    Rd W (.slice (some a) len cap) (zs.take len) := by
  have hlen : (zs.take len).length = len := by simp; omega
  refine ⟨some a, cap, by rw [hlen], by omega, by simpa [maxLen] using hm, fun h0 => ?_⟩
  have hpos : 0 < len := by
    rcases Nat.eq_zero_or_pos len with h | h
    · subst h; simp at h0
    · exact h
  obtain ⟨b, o, spot⟩ := a
  have hspot : spot = none := by simpa [Addr.add] using World.cell?_spot (hcell 0 (by omega))
  subst hspot
  refine ⟨b, o, rfl, fun j hj => ?_⟩
  have := hcell j (by omega)
  rw [add_plain] at this
  rw [this, List.getElem?_take, if_pos (by omega), List.getD_eq_getElem?_getD]

theorem arg22 {H : Type} {enc : TypeId × Value → H} {W : World} {a : Option Addr} {len cap : Nat} {d : DataW H} {p : List MemPlace} (h : DataW.Trod enc Try.prog W 0 (fun _ => true) true 22 (.slice a len cap) d p) :
    ∃ xs, Rd W (.slice a len cap) xs ∧ ∀ x ∈ xs, (Lit.int .i64 x).wf = true := by
  obtain ⟨fuel, hf⟩ := h
  rcases open_ints Try.underlying22 Try.underlying2 Try.cells2 hf with ⟨hcs, _⟩ | ⟨x, l, c, zs, hcs, _, hl, hm, hz, _, hcell, hwz⟩
  · simp [Value.cells] at hcs
    obtain ⟨rfl, rfl, rfl⟩ := hcs
    exact ⟨[], ⟨none, 0, rfl, Nat.le_refl _, by omega, fun h => absurd rfl h⟩, by simp⟩
  · simp [Value.cells] at hcs
    obtain ⟨rfl, rfl, rfl⟩ := hcs
    exact ⟨zs.take len, rd_of_row hl hm (by simpa using hz) hcell, fun x hx => hwz x (List.mem_of_mem_take hx)⟩

theorem arg23 {H : Type} {enc : TypeId × Value → H} {W : World} {a : Option Addr} {len cap : Nat} {d : DataW H} {p : List MemPlace} (h : DataW.Trod enc Try.prog W 0 (fun _ => true) true 23 (.slice a len cap) d p) :
    ∃ (A : Nat → Option Addr) (C : Nat → Nat) (LL : Nat → List Int), Heads W (.slice a len cap) len A (fun j => (LL j).length) C ∧ (∀ j, j < len → Rd W (.slice (A j) (LL j).length (C j)) (LL j)) ∧ ∀ j, j < len → ∀ x ∈ LL j, (Lit.int .i64 x).wf = true := by
  obtain ⟨fuel, hf⟩ := h
  rcases open_int_rows Try.underlying23 Try.underlying22 Try.underlying2 Try.cells22 Try.cells2 hf with ⟨hcs, _⟩ | ⟨x, l, c, A, L, C, Z, hcs, _, hl, hm, _, hrow⟩
  · simp [Value.cells] at hcs
    obtain ⟨rfl, rfl, rfl⟩ := hcs
    exact ⟨fun _ => none, fun _ => 0, fun _ => [], ⟨none, 0, rfl, Nat.le_refl _, by omega, fun h => by omega⟩, fun j hj => by omega, fun j hj => by omega⟩
  · simp [Value.cells] at hcs
    obtain ⟨rfl, rfl, rfl⟩ := hcs
    have hlen : ∀ j, j < len → ((Z j).take (L j)).length = L j := fun j hj => by
      obtain ⟨_, q1, _, q3, _⟩ := hrow j (by omega)
      simp; omega
    refine ⟨A, C, fun j => (Z j).take (L j), ⟨some x, cap, rfl, hl, by simpa [maxLen] using hm, fun h0 => ?_⟩, fun j hj => ?_, fun j hj y hy => ?_⟩
    · obtain ⟨b, o, spot⟩ := x
      have hspot : spot = none := by simpa [Addr.add] using World.cell?_spot (hrow 0 (by omega)).1
      subst hspot
      refine ⟨b, o, rfl, fun j hj => ?_⟩
      have := (hrow j (by omega)).1
      rw [add_plain] at this
      dsimp only
      rw [this, hlen j hj]
    · obtain ⟨_, q1, q2, q3, _, q5, q6⟩ := hrow j (by omega)
      dsimp only
      rw [hlen j hj]
      cases hA : A j with
      | none =>
        have := q5 hA
        have hL : L j = 0 := by omega
        rw [hL, List.take_zero]
        exact ⟨none, C j, rfl, by simp, by simpa [maxLen] using q2, fun h => absurd rfl h⟩
      | some a' => exact rd_of_row q1 q2 q3 (fun i hi => (q6 a' hA).2 i (by omega))
    · exact (hrow j (by omega)).2.2.2.2.1 y (List.mem_of_mem_take hy)

end Go.Proofs.Qxb6617284a
