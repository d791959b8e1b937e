/-
  The script law where no step is made: one of the two slices is empty.
-/
import Derived.Test.Qxb6617284aInv3
namespace Go.Proofs.Qxb6617284a
set_option linter.unusedVariables false
open Go.RowKit Go.Deep Go.Maps

theorem len_third (w : World) (a b c d e f g h : Obj) : (Builtin.len_ #[26] 3 #[.map (some (w.heap.size + 1 + 1))]).run Try.prog (((((((((w.alloc a).alloc b).alloc (.map #[] 0)).alloc c).alloc d).alloc e).alloc f).alloc g).alloc h) =
    .ok (.int .i64 0) (((((((((w.alloc a).alloc b).alloc (.map #[] 0)).alloc c).alloc d).alloc e).alloc f).alloc g).alloc h) := by
  have hs : ((w.alloc a).alloc b).heap.size = w.heap.size + 1 + 1 := by simp
  have hm := mapIs_made ((w.alloc a).alloc b)
  rw [hs] at hm
  have hm2 := hm.kept (w' := ((((((((w.alloc a).alloc b).alloc (.map #[] 0)).alloc c).alloc d).alloc e).alloc f).alloc g).alloc h) (by
    rw [Below.heap_alloc _ _ _ (by simp), Below.heap_alloc _ _ _ (by simp), Below.heap_alloc _ _ _ (by simp), Below.heap_alloc _ _ _ (by simp), Below.heap_alloc _ _ _ (by simp), Below.heap_alloc _ _ _ (by simp)])
  exact hm2.len Try.underlying26 3

theorem len_sixth (w : World) (a b c d e f g h : Obj) : (Builtin.len_ #[36] 3 #[.map (some (w.heap.size + 1 + 1 + 1 + 1 + 1))]).run Try.prog (((((((((w.alloc a).alloc b).alloc c).alloc d).alloc e).alloc (.map #[] 0)).alloc f).alloc g).alloc h) =
    .ok (.int .i64 0) (((((((((w.alloc a).alloc b).alloc c).alloc d).alloc e).alloc (.map #[] 0)).alloc f).alloc g).alloc h) := by
  have hs : (((((w.alloc a).alloc b).alloc c).alloc d).alloc e).heap.size = w.heap.size + 1 + 1 + 1 + 1 + 1 := by simp
  have hm := mapIs_made (((((w.alloc a).alloc b).alloc c).alloc d).alloc e)
  rw [hs] at hm
  have hm2 := hm.kept (w' := ((((((((w.alloc a).alloc b).alloc c).alloc d).alloc e).alloc (.map #[] 0)).alloc f).alloc g).alloc h) (by
    rw [Below.heap_alloc _ _ _ (by simp), Below.heap_alloc _ _ _ (by simp), Below.heap_alloc _ _ _ (by simp)])
  exact hm2.len Try.underlying36 3

set_option maxRecDepth 100000 in
set_option maxHeartbeats 1600000 in
theorem script_zero (ak : Option Addr) (nk ck : Nat) (al : Option Addr) (nl cl : Nat) (w : World) (L : Nat → Nat) (h0 : nk = 0 ∨ nl = 0) (hnk : nk ≤ 9223372036854775807) (hnl : nl ≤ 9223372036854775807)
   (h14 : Calls Try.prog 14 #[.slice ak nk ck, .slice al nl cl] w fun e w' => BoolQ e ∧ w' = w)
   (h6 : ∀ t : Int, 0 ≤ t → t ≤ 9223372036854775807 → Calls Try.prog 6 #[.slice al nl cl, .int .i64 t] w fun e w' => NestedQ nl L e ∧ w' = w) :
   Calls Try.prog 4 #[.slice ak nk ck, .slice al nl cl] w fun e w' => e = .returned (.bool true) ∧ Below w.heap.size w w' := by
  have H14 : Hid (Calls Try.prog 14 #[.slice ak nk ck, .slice al nl cl] w fun e w' => BoolQ e ∧ w' = w) := h14
  have H6 : Hid (∀ t : Int, 0 ≤ t → t ≤ 9223372036854775807 → Calls Try.prog 6 #[.slice al nl cl, .int .i64 t] w fun e w' => NestedQ nl L e ∧ w' = w) := h6
  clear h14 h6
  by_cases t1 : 65536 < nk
  · go_enter Try.func4, Try.ntmps4
    go_wp2_with (go_at_call 14; refine H14.out.mono ?_; rintro e w1 ⟨⟨r, rfl⟩, hw1⟩; have hw2 := hw1.symm; clear hw1; subst hw2; cases r)
    all_goals
      go_ret
      exact ⟨rfl, Below.refl _ _⟩
  by_cases t2 : 65536 < nl
  · go_enter Try.func4, Try.ntmps4
    go_wp2_with (go_at_call 14; refine H14.out.mono ?_; rintro e w1 ⟨⟨r, rfl⟩, hw1⟩; have hw2 := hw1.symm; clear hw1; subst hw2; cases r)
    all_goals
      go_ret
      exact ⟨rfl, Below.refl _ _⟩
  have hmk : ∀ w, (Instr.makeSlice 23 (.int .i64 0) (.int .i64 0)).run Try.prog w = .ok (.slice (some ⟨w.heap.size, 0, none⟩) 0 0) (w.alloc (.cells (madeCells #[.slice none 0 0] 0) 22)) := fun w => run_make_row' (P := Try.prog) 23 22 (.slice none 0 0) 24 Try.underlying23 Try.info22 rfl .i64 .i64 0 (by omega) (by omega) w
  have hmm := @run_makeMap Try.prog
  have HNe : (nl < nk ∧ nl = 0) ∨ (¬ nl < nk ∧ nk = 0) := by omega
  clear h0
  rcases HNe with ⟨t3, rfl⟩ | ⟨t3, rfl⟩
  all_goals
    go_enter Try.func4, Try.ntmps4
    go_wp2_with (first | (go_at_call 14; refine H14.out.mono ?_; rintro e w1 ⟨⟨r, rfl⟩, hw1⟩; have hw2 := hw1.symm; clear hw1; subst hw2; cases r) | (go_at_call 6; refine (H6.out _ (by omega) (by omega)).mono ?_; rintro e w1 ⟨⟨r, rfl, hr⟩, hw1⟩; have hw2 := hw1.symm; clear hw1; subst hw2; cases r))
    · go_ret
      exact ⟨rfl, Below.refl _ _⟩
    · go_ret
      exact ⟨rfl, Below.refl _ _⟩
    clear hr
    refine wp_loop_rounds 1 ?_
    rw [rounds_succ]
    go_wp2_with (go_at_call 9; refine (newlists_any _ _ _ _ _).mono ?_; rintro e w' ⟨rfl, rfl⟩)
    refine wp_loop_rounds 1 ?_
    rw [rounds_succ]
    go_wp2_with fail
    refine wp_loop_rounds 1 ?_
    rw [rounds_succ]
    go_wp2_with fail
    refine wp_loop_rounds 1 ?_
    rw [rounds_succ]
    go_wp2_with fail
    refine wp_loop_rounds 1 ?_
    rw [rounds_succ]
    go_wp2_with fail
    refine wp_loop_rounds 1 ?_
    rw [rounds_succ]
    go_wp2_with fail
    refine wp_loop_rounds 1 ?_
    rw [rounds_succ]
    have hl1 := len_third w
    have hl2 := len_sixth w
    go_wp2_with fail
    go_ret
    exact ⟨rfl, by repeat (first | exact Below.refl _ _ | (refine Below.alloc ?_ (by simp; try omega) _))⟩
end Go.Proofs.Qxb6617284a
