/-
  PROOF OF 'Rows.FnParseIntMatchesDecimalValueCardSaid'.
-/
import Derived.Test.Qxb6617284aDoorMatch
import Derived.Test.Qxb6617284aDoorStart
import Derived.Test.Qxb6617284aDoorTie
import Derived.Test.Qxb6617284aDoorCards
import Derived.SevenTiedAt
namespace Go.Proofs.Qxb6617284aDoor
set_option linter.unusedVariables false
open Go.ChangeShapes Go.WideShapes Go.ChangeAt Go.RowKit Go.Deep

set_option maxHeartbeats 800000 in
theorem match_nil (c : Nat) (w : World) : Calls Tryd.prog 3 #[.slice none 0 c] w fun e w' => e = .returned (.bool true) ∧ Below w.heap.size w w' := by
  have H5 := hidIt (bytes5_any none 0 c w (by omega))
  have n22 := n22
  go_enter Tryd.func3, Tryd.ntmps3
  go_wp2_with (go_at_call 5; refine H5.out.mono ?_; rintro e w1 ⟨⟨r, rfl, hr⟩, hw1⟩; have hw2 := hw1.symm; clear hw1; subst hw2; clear hr; cases r)
  all_goals
    go_ret
    exact ⟨rfl, Below.refl _ _⟩

set_option maxHeartbeats 800000 in
theorem match_empty (a : Addr) (c : Nat) (w : World) : Calls Tryd.prog 3 #[.slice (some a) 0 c] w fun e w' => e = .returned (.bool true) ∧ Below w.heap.size w w' := by
  have H5 := hidIt (bytes5_any (some a) 0 c w (by omega))
  have n22 := n22
  have hmk : ∀ w, (Instr.makeSlice 22 (.int .i64 0) (.int .i64 0)).run Tryd.prog w = .ok (.slice (some ⟨w.heap.size, 0, none⟩) 0 0) (w.alloc (.cells (madeCells #[.int .u8 0] 0) 5)) := fun w => make_bytes 0 (by omega) w
  have hcp : ∀ w x, (Builtin.copy_ #[22, 22] 3 #[.slice (some x) 0 0, .slice (some a) 0 c]).run Tryd.prog w = .ok (.int .i64 0) w := fun w x => run_copy_none (P := Tryd.prog) w 22 22 3 5 (some x) (some a) 0 0 0 c Tryd.underlying22 (by kernel_rfl) rfl
  go_enter Tryd.func3, Tryd.ntmps3
  go_wp2_with (go_at_call 5; refine H5.out.mono ?_; rintro e w1 ⟨⟨r, rfl, hr⟩, hw1⟩; have hw2 := hw1.symm; clear hw1; subst hw2; clear hr; cases r)
  · go_ret
    exact ⟨rfl, Below.refl _ _⟩
  · go_ret
    exact ⟨rfl, ⟨rfl, rfl, rfl, by simp, fun k hk => Below.heap_alloc _ _ _ hk⟩⟩

theorem match_any {H : Type} {enc : TypeId × Value → H} {W : World} {a : Option Addr} {len cap : Nat} {d : DataW H} {p : List MemPlace} (h : DataW.Trod enc Tryd.prog W 0 (fun _ => true) true 22 (.slice a len cap) d p) (he : ErrOk W) :
    Calls Tryd.prog 3 #[.slice a len cap] W fun e w' => e = .returned (.bool true) ∧ Below W.heap.size W w' := by
  obtain ⟨hn, hx⟩ := arg22 h
  by_cases h0 : 0 < len
  · obtain ⟨b, o, l, rfl, hl, hB⟩ := hx h0
    by_cases h45 : byteAt l 0 = 45
    · exact match_minus h45.symm hB hl h0 hn he
    by_cases h43 : byteAt l 0 = 43
    · exact match_plus h43.symm hB hl h0 hn he
    · exact match_plain (byteAt l 0) rfl (by simpa using h45) (by simpa using h43) hB hl h0 hn he
  · obtain rfl : len = 0 := by omega
    cases a with
    | none => exact match_nil cap W
    | some a => exact match_empty a cap W

namespace fnParseIntMatchesDecimalValue

set_option maxRecDepth 100000 in
theorem lifted (os : Os) (started : os.Started) (H : Type) (enc : TypeId × Value → H) :
    ReturnsInHanded {} Tryd.checked os 3 .any (fun w args => (Rows.fnParseIntMatchesDecimalValueSpec.pre enc Tryd.prog Tryd.f3 [] false w args ∧ laidMetH Tryd.prog theLaid w) ∧ sizedMet enc Tryd.prog Tryd.f3 (OpenSpec.ofChange Rows.fnParseIntMatchesDecimalValueSpec) false w args)
      (Rows.fnParseIntMatchesDecimalValueSpec.post enc Tryd.prog Tryd.f3 false true false false) := by
  refine returnsInHanded_of_change_and (C := Tryd.checked) (X := fun w _ => laidMet Tryd.prog theLaid w) (fun _ _ _ hh h => h.of_heap hh) Tryd.own started (by kernel_rfl) Tryd.func3
    (ChangeSpec.witness_at (enc := enc) (C := Tryd.checked) (os := os) (X := fun w _ => laidMet Tryd.prog theLaid w) false (laidWorld os) #[.slice none 0 0] 8 rfl (by kernel_rfl) (by kernel_rfl) (by kernel_rfl) (by kernel_rfl) (by kernel_rfl) (laidWorld_met os _)) ?_
  intro W base args ds gs before hval0 hW _ _ hL _
  have hval : ∀ (j : Nat) t v, Tryd.f3.params[j]? = some t → args[j]? = some v → Value.okWide Tryd.prog W .any base t v := hval0
  have hW' := hW
  obtain ⟨p, q, hA0, hV, rfl, hfz, hnd⟩ := hW
  have hA : DataW.TrodAll enc Tryd.prog W 0 (fun _ => true) true Tryd.f3.params.toList args.toList ds p := hA0
  rw [Tryd.params3] at hA hval
  obtain ⟨v0, vs0, d0, ds0, p0, q0, hargs, rfl, rfl, h0, r0⟩ := trodAll_cons hA
  obtain ⟨rfl, rfl, rfl⟩ := trodAll_nil r0
  obtain rfl : args = #[v0] := by cases args; simp_all
  obtain ⟨rfl, rfl⟩ := trodVars_none hV
  obtain ⟨a0, len0, cap0, rfl⟩ := okWide_slice Tryd.underlying22 (hval 0 22 v0 rfl rfl)
  have lt0 : ∀ x ∈ p0, x.block < W.heap.size := by obtain ⟨m, hm⟩ := h0; exact DataW.trod_lt m _ _ _ hm
  clear hA0 hval0
  refine (match_any h0 (errOk_of_laid hL)).mono fun e W' ⟨he, bel⟩ => ?_
  subst he
  exact ⟨_, rfl, _, _, _, [], _, [], hW', trodAll_mk1 (shut_bool Tryd.underlying4 _), (trodAll_cons_mk (Below.trod Tryd.laidOut (by kernel_rfl) (of_decide_eq_true (by kernel_rfl)) h0 bel lt0) trodAll_mk0), rfl, bel.frame _, fun h => by cases h⟩

theorem over : Rows.FnParseIntMatchesDecimalValueSaid :=
  OpenClaim.holds_of_wide 3 Tryd.f3 rfl rfl rfl rfl rfl rfl rfl ⟨rfl, rfl, rfl, rfl, rfl⟩ rfl rfl rfl rfl rfl (by kernel_rfl) Tryd.func3 (by kernel_rfl)
    (of_decide_eq_true (by kernel_rfl)) (by unfold Func.isWrapper; first | (rw [if_pos (by decide +kernel)]; kernel_rfl) | (rw [if_neg (by decide +kernel)]; exact ⟨rfl, rfl⟩))
    (fun os started H enc _ => lifted os started H enc)

/-- THE STATEMENT -/
theorem proved : Rows.FnParseIntMatchesDecimalValueCardSaid :=
  Claim7.holds_tied_plain_at .later [] [.data, .data, .data, .sentinel, .sentinel] true (true, "ead8573aa7c34612264e1358b02c9c450092b2c8be7b24eb07132650259f4fd2") true
    over (fun _ h => by cases h) (by kernel_rfl) (fun _ h => by cases h) fnParseIntMatchesDecimalValue_row_tie rfl ⟨rfl, rfl⟩ (by kernel_rfl) rfl
    (fun f fn hf hfn => by
      obtain rfl : f = 3 := Option.some.inj ((show Tryd.prog.funcNamed "example.com/concordat/concordat/zzlaws_internal_history_b1.FnParseIntMatchesDecimalValue" = some 3 by kernel_rfl).symm.trans hf) |>.symm
      obtain rfl : fn = Tryd.f3 := (Option.some.inj (Tryd.func3.symm.trans hfn)).symm
      exact ⟨by kernel_rfl, fun j t ht => by
        rw [Tryd.params3] at ht
        have h3 : t = 22 := by
          rcases j with _ | j
          · simpa using ht.symm
          · simp at ht
        subst h3
        exact (show Tryd.prog.wantsStandIn 22 = false by kernel_rfl)⟩)
    (by kernel_rfl)
end fnParseIntMatchesDecimalValue
end Go.Proofs.Qxb6617284aDoor
