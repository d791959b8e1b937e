/-
  PROOF OF 'Rows.FnKeepScriptKeepsEveryReadSaid'.
-/
import Derived.Test.Qxb6617284aArgs
import Derived.Test.Qxb6617284aScript
import Derived.Test.Qxb6617284aZero
namespace Go.Proofs.Qxb6617284a
set_option linter.unusedVariables false
open Go.ChangeShapes Go.WideShapes Go.ChangeAt Go.RowKit Go.Deep

theorem script_any {W : World} {ak : Option Addr} {nk ck : Nat} {al : Option Addr} {nl cl : Nat} {ks : List Int} {A : Nat → Option Addr} {C : Nat → Nat} {LL : Nat → List Int} (hk : Rd W (.slice ak nk ck) ks) (hwf : ∀ x ∈ ks, (Lit.int .i64 x).wf = true)
    (hh : Heads W (.slice al nl cl) nl A (fun j => (LL j).length) C) (hr : ∀ j, j < nl → Rd W (.slice (A j) (LL j).length (C j)) (LL j)) :
    Calls Try.prog 4 #[.slice ak nk ck, .slice al nl cl] W fun e w' => e = .returned (.bool true) ∧ Below W.heap.size W w' := by
  have hLb : ∀ j, j < nl → (LL j).length ≤ 9223372036854775807 := fun j hj => by
    obtain ⟨a, c, he, h1, h2, _⟩ := hr j hj
    omega
  obtain ⟨a0, c0, he, hl0, hm0, hr0⟩ := hk
  simp only [Value.slice.injEq] at he
  obtain ⟨rfl, rfl, rfl⟩ := he
  have hh' := hh
  obtain ⟨a1, c1, he, hl1, hm1, hr1⟩ := hh'
  simp only [Value.slice.injEq, true_and] at he
  obtain ⟨rfl, rfl⟩ := he
  have h14 := bytes14_any ak ks.length ck (by omega) hh hLb
  have h6 := fun t h0 h1 => nested_any hh hLb t h0 h1
  by_cases h0 : ks.length = 0 ∨ nl = 0
  · exact script_zero ak ks.length ck al nl cl W _ h0 (by omega) (by omega) h14 h6
  · obtain ⟨kb, ko, rfl, hkc⟩ := hr0 (by intro e; subst e; simp at h0)
    obtain ⟨lb, lo, rfl, hlc⟩ := hr1 (by omega)
    refine script_full kb ko ks.length ck lb lo nl cl (min ks.length nl) W (fun i => ks[i]?.getD 0) LL A C rfl (by omega) (by omega) (by omega) (by omega) (by omega) h14 h6 (fun i hi => hkc i (by omega)) (fun i hi => ?_) (fun i hi => hlc i (by omega)) (fun i hi => hr i (by omega))
    have hi' : i < ks.length := by omega
    rw [List.getElem?_eq_getElem hi']
    exact hwf _ (List.getElem_mem hi')

namespace fnKeepScriptKeepsEveryRead

set_option maxRecDepth 100000 in
theorem lifted (os : Os) (started : os.Started) (H : Type) (enc : TypeId × Value → H) :
    ReturnsInHanded {} Try.checked os 4 .any (Rows.fnKeepScriptKeepsEveryReadSpec.pre6 enc Try.prog Try.f4 Rows.fnKeepScriptKeepsEveryReadRow.domain false) (Rows.fnKeepScriptKeepsEveryReadSpec.post enc Try.prog Try.f4 false true false false) := by
  refine returnsInHanded_of_change (C := Try.checked) Try.own started (by kernel_rfl) Try.func4
    (ChangeSpec.witness6 (enc := enc) (C := Try.checked) false ⟨#[], #[.slice none 0 0, .slice none 0 0], []⟩ 8 (by kernel_rfl) (by kernel_rfl) (by kernel_rfl) (by kernel_rfl)) ?_
  intro W base args ds gs before hval0 hW hcnd _
  have hval : ∀ (j : Nat) t v, Try.f4.params[j]? = some t → args[j]? = some v → Value.okWide Try.prog W .any base t v := hval0
  have hW' := hW
  obtain ⟨p, q, hA0, hV, rfl, hfz, hnd⟩ := hW
  have hA : DataW.TrodAll enc Try.prog W 0 (fun _ => true) true Try.f4.params.toList args.toList ds p := hA0
  rw [Try.params4] at hA hval
  obtain ⟨v0, vs0, d0, ds0, p0, q0, hargs, rfl, rfl, h0, r0⟩ := trodAll_cons hA
  obtain ⟨v1, vs1, d1, ds1, p1, q1, rfl, rfl, rfl, h1, r1⟩ := trodAll_cons r0
  obtain ⟨rfl, rfl, rfl⟩ := trodAll_nil r1
  obtain rfl : args = #[v0, v1] := by cases args; simp_all
  obtain ⟨rfl, rfl⟩ := trodVars_none hV
  obtain ⟨a0, len0, cap0, rfl⟩ := okWide_slice Try.underlying22 (hval 0 22 v0 rfl rfl)
  obtain ⟨a1, len1, cap1, rfl⟩ := okWide_slice Try.underlying23 (hval 1 23 v1 rfl rfl)
  have lt0 : ∀ x ∈ p0, x.block < W.heap.size := by obtain ⟨m, hm⟩ := h0; exact DataW.trod_lt m _ _ _ hm
  have lt1 : ∀ x ∈ p1, x.block < W.heap.size := by obtain ⟨m, hm⟩ := h1; exact DataW.trod_lt m _ _ _ hm
  obtain ⟨ks, hk, hwf⟩ := arg22 h0
  obtain ⟨A, C, LL, hh, hr, _⟩ := arg23 h1
  clear hA0 hval0
  refine (script_any hk hwf hh hr).mono fun e W' ⟨he, bel⟩ => ?_
  subst he
  exact ⟨_, rfl, _, _, _, [], _, [], hW', trodAll_mk1 (shut_bool Try.underlying4 _), (trodAll_cons_mk (Below.trod Try.laidOut (by kernel_rfl) (of_decide_eq_true (by kernel_rfl)) h0 bel lt0) (trodAll_cons_mk (Below.trod Try.laidOut (by kernel_rfl) (of_decide_eq_true (by kernel_rfl)) h1 bel lt1) trodAll_mk0)), rfl, bel.frame _, fun h => by cases h⟩

theorem over : Rows.fnKeepScriptKeepsEveryReadRow.holds Try.pinned (OpenSpec.ofChange Rows.fnKeepScriptKeepsEveryReadSpec) :=
  OpenClaim.holds_of_wide 4 Try.f4 rfl rfl rfl rfl rfl rfl rfl ⟨rfl, rfl, rfl, rfl, rfl⟩ rfl rfl rfl rfl rfl (by kernel_rfl) Try.func4 (by kernel_rfl)
    (of_decide_eq_true (by kernel_rfl)) (by unfold Func.isWrapper; first | (rw [if_pos (by decide +kernel)]; kernel_rfl) | (rw [if_neg (by decide +kernel)]; exact ⟨rfl, rfl⟩))
    (fun os started H enc _ => lifted os started H enc)

/-- THE STATEMENT -/
theorem proved : Rows.FnKeepScriptKeepsEveryReadSaid :=
  over
end fnKeepScriptKeepsEveryRead
end Go.Proofs.Qxb6617284a
