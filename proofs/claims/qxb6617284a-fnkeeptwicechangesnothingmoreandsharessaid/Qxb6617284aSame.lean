/-
  Contracts of three reading loops: zzB1Same64 (function 11), slices.Equal at int64 (16), zzB1Agree64 (8).
-/
import Derived.Test.Qxb6617284aBase
namespace Go.Proofs.Qxb6617284a
set_option linter.unusedVariables false
open Go.RowKit

/-- One of the two lists begins the other. -/
def agr (xs ys : List Int) : Bool := decide (xs.take (min xs.length ys.length) = ys.take (min xs.length ys.length))

theorem ret_bool {a b : Bool} (h : a = b) : Ending.returned (.bool a) = .returned (.bool b) := by rw [h]

set_option maxHeartbeats 400000 in
theorem same_full (b1 o1 c1 b2 o2 c2 : Nat) (xs ys : List Int) (w : World) (hl : ys.length = xs.length) (hm : xs.length ≤ 9223372036854775807)
    (h1 : ∀ j, j < xs.length → w.cell? ⟨b1, o1 + j, none⟩ = some (.int .i64 (xs[j]?.getD 0))) (h2 : ∀ j, j < xs.length → w.cell? ⟨b2, o2 + j, none⟩ = some (.int .i64 (ys[j]?.getD 0))) :
    Calls Try.prog 11 #[.slice (some ⟨b1, o1, none⟩) xs.length c1, .slice (some ⟨b2, o2, none⟩) xs.length c2] w fun e w' => e = .returned (.bool (decide (xs = ys))) ∧ ∃ n, w' = w.drewN n := by
  have HL : Hid (ys.length = xs.length) := hl
  clear hl
  obtain ⟨L, hL⟩ : ∃ L, L = xs.length := ⟨_, rfl⟩
  rw [← hL] at h1 h2 hm ⊢
  have HLL : Hid (L = xs.length) := hL
  clear hL
  go_enter Try.func11, Try.ntmps11
  go_wp2
  go_loopw [5] (fun i wr => ∃ k n : Nat, k ≤ L ∧ i = .int .i64 k ∧ Hid (xs.take k = ys.take k) ∧ wr = w.drewN n) (fun i _ => L - (intOf i).toNat)
  case atStart => exact ⟨0, 0, Nat.zero_le _, rfl, rfl, rfl⟩
  case round =>
    obtain ⟨k, n, hk, rfl, HE, rfl⟩ := hrel
    by_cases hlt : k < L
    · have g1 := h1 k hlt
      have g2 := h2 k hlt
      obtain ⟨x, hx⟩ : ∃ x, x = xs[k]?.getD 0 := ⟨_, rfl⟩
      obtain ⟨y, hy⟩ : ∃ y, y = ys[k]?.getD 0 := ⟨_, rfl⟩
      rw [← hx] at g1
      rw [← hy] at g2
      have HX : Hid (x = xs[k]?.getD 0) := hx
      have HY : Hid (y = ys[k]?.getD 0) := hy
      clear hx hy h1 h2
      by_cases hxy : (x != y) = true
      · go_wp2
        go_quiet (fail)
        go_wp2
        go_ret
        refine ⟨ret_bool ?_, _, World.drewN_drewN _ _ _⟩
        have hne : xs ≠ ys := ne_of_at (k := k) (by rw [← HX.out, ← HY.out]; simpa using hxy)
        simp [hne]
      · have hxy' : (x != y) = false := by simpa using hxy
        clear hxy
        go_wp2
        go_quiet (fail)
        go_wp2
        go_roundw
        case rel =>
          have hL := HLL.out
          have hL2 := HL.out
          exact ⟨k + 1, _, by omega, by go_num, take_succ_eq HE.out (by omega) (by omega) (by rw [← HX.out, ← HY.out]; simpa using hxy'), rfl⟩
        case measure => simp [intOf]; omega
    · clear h1 h2
      go_wp2
      go_ret
      refine ⟨ret_bool ?_, _, rfl⟩
      have hL := HLL.out
      have hL2 := HL.out
      have hE := HE.out
      rw [List.take_of_length_le (by omega), List.take_of_length_le (by omega)] at hE
      simp [hE]

set_option maxHeartbeats 400000 in
theorem same_lens (a1 a2 : Option Addr) (n1 n2 c1 c2 : Nat) (w : World) (hm1 : n1 ≤ 9223372036854775807) (hm2 : n2 ≤ 9223372036854775807) (hl : ((n1 : Int) != (n2 : Int)) = true) :
    Calls Try.prog 11 #[.slice a1 n1 c1, .slice a2 n2 c2] w fun e w' => e = .returned (.bool false) ∧ w' = w := by
  go_enter Try.func11, Try.ntmps11
  go_wp2
  go_ret
  exact ⟨rfl, rfl⟩

set_option maxHeartbeats 400000 in
theorem same_empty (a1 a2 : Option Addr) (c1 c2 : Nat) (w : World) :
    Calls Try.prog 11 #[.slice a1 0 c1, .slice a2 0 c2] w fun e w' => e = .returned (.bool true) ∧ w' = w := by
  go_enter Try.func11, Try.ntmps11
  go_wp2
  refine wp_loop_rounds 1 ?_
  rw [rounds_succ]
  go_wp2
  go_ret
  exact ⟨rfl, rfl⟩

/-- zzB1Same64: are the two lists equal? It only reads. -/
theorem same_any {w : World} {v1 v2 : Value} {xs ys : List Int} (h1 : Rd w v1 xs) (h2 : Rd w v2 ys) :
    Calls Try.prog 11 #[v1, v2] w fun e w' => e = .returned (.bool (decide (xs = ys))) ∧ ∃ n, w' = w.drewN n := by
  obtain ⟨a1, c1, rfl, l1, m1, r1⟩ := h1
  obtain ⟨a2, c2, rfl, l2, m2, r2⟩ := h2
  by_cases hl : ys.length = xs.length
  · by_cases h0 : xs = []
    · subst h0
      obtain rfl : ys = [] := List.length_eq_zero_iff.1 (by simpa using hl)
      refine (same_empty a1 a2 c1 c2 w).mono ?_
      rintro e w' ⟨rfl, rfl⟩
      exact ⟨by simp, 0, rfl⟩
    · obtain ⟨b1, o1, rfl, g1⟩ := r1 h0
      obtain ⟨b2, o2, rfl, g2⟩ := r2 (by intro h; subst h; exact h0 (List.length_eq_zero_iff.1 (by simpa using hl.symm)))
      rw [hl]
      exact same_full b1 o1 c1 b2 o2 c2 xs ys w hl (by omega) g1 (fun j hj => g2 j (by omega))
  · refine (same_lens a1 a2 xs.length ys.length c1 c2 w (by omega) (by omega) (by simp; omega)).mono ?_
    rintro e w' ⟨rfl, rfl⟩
    exact ⟨ret_bool (by symm; simp; intro h; exact hl (by rw [h])), 0, rfl⟩

/-! ### slices.Equal -/
set_option maxHeartbeats 400000 in
theorem equal_full (b1 o1 c1 b2 o2 c2 : Nat) (xs ys : List Int) (w : World) (hl : ys.length = xs.length) (hm : xs.length ≤ 9223372036854775807)
    (h1 : ∀ j, j < xs.length → w.cell? ⟨b1, o1 + j, none⟩ = some (.int .i64 (xs[j]?.getD 0))) (h2 : ∀ j, j < xs.length → w.cell? ⟨b2, o2 + j, none⟩ = some (.int .i64 (ys[j]?.getD 0))) :
    Calls Try.prog 16 #[.slice (some ⟨b1, o1, none⟩) xs.length c1, .slice (some ⟨b2, o2, none⟩) xs.length c2] w fun e w' => e = .returned (.bool (decide (xs = ys))) ∧ ∃ n, w' = w.drewN n := by
  have HL : Hid (ys.length = xs.length) := hl
  clear hl
  obtain ⟨L, hL⟩ : ∃ L, L = xs.length := ⟨_, rfl⟩
  rw [← hL] at h1 h2 hm ⊢
  have HLL : Hid (L = xs.length) := hL
  clear hL
  go_enter Try.func16, Try.ntmps16
  go_wp2
  go_loopw [13] (fun i wr => ∃ k n : Nat, k ≤ L ∧ i = .int .i64 k ∧ Hid (xs.take k = ys.take k) ∧ wr = w.drewN n) (fun i _ => L - (intOf i).toNat)
  case atStart => exact ⟨0, 0, Nat.zero_le _, rfl, rfl, rfl⟩
  case round =>
    obtain ⟨k, n, hk, rfl, HE, rfl⟩ := hrel
    by_cases hlt : k < L
    · have g1 := h1 k hlt
      have g2 := h2 k hlt
      obtain ⟨x, hx⟩ : ∃ x, x = xs[k]?.getD 0 := ⟨_, rfl⟩
      obtain ⟨y, hy⟩ : ∃ y, y = ys[k]?.getD 0 := ⟨_, rfl⟩
      rw [← hx] at g1
      rw [← hy] at g2
      have HX : Hid (x = xs[k]?.getD 0) := hx
      have HY : Hid (y = ys[k]?.getD 0) := hy
      clear hx hy h1 h2
      by_cases hxy : (x != y) = true
      · go_wp2
        go_quiet (fail)
        go_wp2
        go_ret
        refine ⟨ret_bool ?_, _, World.drewN_drewN _ _ _⟩
        have hne : xs ≠ ys := ne_of_at (k := k) (by rw [← HX.out, ← HY.out]; simpa using hxy)
        simp [hne]
      · have hxy' : (x != y) = false := by simpa using hxy
        clear hxy
        go_wp2
        go_quiet (fail)
        go_wp2
        go_roundw
        case rel =>
          have hL := HLL.out
          have hL2 := HL.out
          exact ⟨k + 1, _, by omega, by go_num, take_succ_eq HE.out (by omega) (by omega) (by rw [← HX.out, ← HY.out]; simpa using hxy'), rfl⟩
        case measure => simp [intOf]; omega
    · clear h1 h2
      go_wp2
      go_ret
      refine ⟨ret_bool ?_, _, rfl⟩
      have hL := HLL.out
      have hL2 := HL.out
      have hE := HE.out
      rw [List.take_of_length_le (by omega), List.take_of_length_le (by omega)] at hE
      simp [hE]

set_option maxHeartbeats 400000 in
theorem equal_empty (a1 a2 : Option Addr) (c1 c2 : Nat) (w : World) :
    Calls Try.prog 16 #[.slice a1 0 c1, .slice a2 0 c2] w fun e w' => e = .returned (.bool true) ∧ w' = w := by
  go_enter Try.func16, Try.ntmps16
  go_wp2
  refine wp_loop_rounds 1 ?_
  rw [rounds_succ]
  go_wp2
  go_ret
  exact ⟨rfl, rfl⟩

/-- slices.Equal at two slices of one length. -/
theorem equal_any {w : World} {v1 v2 : Value} {xs ys : List Int} (hl : ys.length = xs.length) (h1 : Rd w v1 xs) (h2 : Rd w v2 ys) :
    Calls Try.prog 16 #[v1, v2] w fun e w' => e = .returned (.bool (decide (xs = ys))) ∧ ∃ n, w' = w.drewN n := by
  obtain ⟨a1, c1, rfl, l1, m1, r1⟩ := h1
  obtain ⟨a2, c2, rfl, l2, m2, r2⟩ := h2
  by_cases h0 : xs = []
  · subst h0
    obtain rfl : ys = [] := List.length_eq_zero_iff.1 (by simpa using hl)
    refine (equal_empty a1 a2 c1 c2 w).mono ?_
    rintro e w' ⟨rfl, rfl⟩
    exact ⟨by simp, 0, rfl⟩
  · obtain ⟨b1, o1, rfl, g1⟩ := r1 h0
    obtain ⟨b2, o2, rfl, g2⟩ := r2 (by intro h; subst h; exact h0 (List.length_eq_zero_iff.1 (by simpa using hl.symm)))
    rw [hl]
    exact equal_full b1 o1 c1 b2 o2 c2 xs ys w hl (by omega) g1 (fun j hj => g2 j (by omega))

/-! ### zzB1Agree64 -/
set_option maxHeartbeats 400000 in
theorem agree_full (b1 o1 n1 c1 b2 o2 n2 c2 L : Nat) (xs ys : List Int) (w : World) (hx0 : Hid (n1 = xs.length)) (hy0 : Hid (n2 = ys.length)) (hL : Hid (L = min n1 n2)) (hm1 : n1 ≤ 9223372036854775807) (hm2 : n2 ≤ 9223372036854775807)
    (h1 : ∀ j, j < n1 → w.cell? ⟨b1, o1 + j, none⟩ = some (.int .i64 (xs[j]?.getD 0))) (h2 : ∀ j, j < n2 → w.cell? ⟨b2, o2 + j, none⟩ = some (.int .i64 (ys[j]?.getD 0))) :
    Calls Try.prog 8 #[.slice (some ⟨b1, o1, none⟩) n1 c1, .slice (some ⟨b2, o2, none⟩) n2 c2] w fun e w' => e = .returned (.bool (agr xs ys)) ∧ ∃ n, w' = w.drewN n := by
  by_cases hc : n2 < n1
  all_goals
    go_enter Try.func8, Try.ntmps8
    go_wp2
    go_loopw [6] (fun i wr => ∃ k n : Nat, k ≤ L ∧ i = .int .i64 k ∧ Hid (xs.take k = ys.take k) ∧ wr = w.drewN n) (fun i _ => L - (intOf i).toNat)
    case atStart => exact ⟨0, 0, Nat.zero_le _, rfl, rfl, rfl⟩
    case round =>
      obtain ⟨k, n, hk, rfl, HE, rfl⟩ := hrel
      have hb1 : L ≤ n1 := by have := hL.out; omega
      have hb2 : L ≤ n2 := by have := hL.out; omega
      by_cases hlt : k < L
      · have g1 := h1 k (by omega)
        have g2 := h2 k (by omega)
        have hk1 : k < n1 := by omega
        have hk2 : k < n2 := by omega
        obtain ⟨x, hx⟩ : ∃ x, x = xs[k]?.getD 0 := ⟨_, rfl⟩
        obtain ⟨y, hy⟩ : ∃ y, y = ys[k]?.getD 0 := ⟨_, rfl⟩
        rw [← hx] at g1
        rw [← hy] at g2
        have HX : Hid (x = xs[k]?.getD 0) := hx
        have HY : Hid (y = ys[k]?.getD 0) := hy
        clear hx hy h1 h2
        by_cases hxy : (x != y) = true
        · go_wp2
          go_quiet (fail)
          go_wp2
          go_ret
          refine ⟨ret_bool ?_, _, World.drewN_drewN _ _ _⟩
          have e1 := hL.out
          have e2 := hx0.out
          have e3 := hy0.out
          symm
          unfold agr
          refine decide_eq_false (fun h => ?_)
          have h3 := congrArg (fun l => l[k]?.getD 0) h
          simp only [List.getElem?_take] at h3
          rw [if_pos (by omega), if_pos (by omega), ← HX.out, ← HY.out] at h3
          simp [h3] at hxy
        · have hxy' : (x != y) = false := by simpa using hxy
          clear hxy
          go_wp2
          go_quiet (fail)
          go_wp2
          go_roundw
          case rel =>
            have e2 := hx0.out
            have e3 := hy0.out
            exact ⟨k + 1, _, by omega, by go_num, take_succ_eq HE.out (by omega) (by omega) (by rw [← HX.out, ← HY.out]; simpa using hxy'), rfl⟩
          case measure => simp [intOf]; omega
      · have hkL : L ≤ k := by omega
        have hmin : ¬ k < n1 ∨ ¬ k < n2 := by have := hL.out; omega
        clear h1 h2
        have hge : (if n2 < n1 then n2 else n1) ≤ k := by have := hL.out; split <;> omega
        first | rw [if_pos hc] at hge | rw [if_neg hc] at hge
        go_wp2
        go_ret
        refine ⟨ret_bool ?_, _, rfl⟩
        have e1 := hL.out
        have e2 := hx0.out
        have e3 := hy0.out
        have hE := HE.out
        symm
        unfold agr
        refine decide_eq_true ?_
        rw [show min xs.length ys.length = k by omega]
        exact hE

set_option maxHeartbeats 400000 in
theorem agree_empty (a1 a2 : Option Addr) (n1 n2 c1 c2 : Nat) (w : World) (hm1 : n1 ≤ 9223372036854775807) (hm2 : n2 ≤ 9223372036854775807) (h0 : n1 = 0 ∨ n2 = 0) :
    Calls Try.prog 8 #[.slice a1 n1 c1, .slice a2 n2 c2] w fun e w' => e = .returned (.bool true) ∧ w' = w := by
  by_cases hc : n2 < n1
  · obtain rfl : n2 = 0 := by omega
    clear h0
    go_enter Try.func8, Try.ntmps8
    go_wp2
    refine wp_loop_rounds 1 ?_
    rw [rounds_succ]
    go_wp2
    go_ret
    exact ⟨rfl, rfl⟩
  · obtain rfl : n1 = 0 := by omega
    clear h0
    go_enter Try.func8, Try.ntmps8
    go_wp2
    refine wp_loop_rounds 1 ?_
    rw [rounds_succ]
    go_wp2
    go_ret
    exact ⟨rfl, rfl⟩

theorem agr_nil_left (ys : List Int) : agr [] ys = true := by simp [agr]
theorem agr_nil_right (xs : List Int) : agr xs [] = true := by simp [agr]

/-- zzB1Agree64: is one list a prefix of the other? It only reads. -/
theorem agree_any {w : World} {v1 v2 : Value} {xs ys : List Int} (h1 : Rd w v1 xs) (h2 : Rd w v2 ys) :
    Calls Try.prog 8 #[v1, v2] w fun e w' => e = .returned (.bool (agr xs ys)) ∧ ∃ n, w' = w.drewN n := by
  obtain ⟨a1, c1, rfl, l1, m1, r1⟩ := h1
  obtain ⟨a2, c2, rfl, l2, m2, r2⟩ := h2
  by_cases h0 : xs = []
  · subst h0
    refine (agree_empty a1 a2 _ _ c1 c2 w (by simp) (by omega) (.inl rfl)).mono ?_
    rintro e w' ⟨rfl, rfl⟩
    exact ⟨ret_bool (agr_nil_left _).symm, 0, rfl⟩
  · by_cases h0' : ys = []
    · subst h0'
      refine (agree_empty a1 a2 _ _ c1 c2 w (by omega) (by simp) (.inr rfl)).mono ?_
      rintro e w' ⟨rfl, rfl⟩
      exact ⟨ret_bool (agr_nil_right _).symm, 0, rfl⟩
    · obtain ⟨b1, o1, rfl, g1⟩ := r1 h0
      obtain ⟨b2, o2, rfl, g2⟩ := r2 h0'
      exact agree_full b1 o1 _ c1 b2 o2 _ c2 _ xs ys w rfl rfl rfl (by omega) (by omega) g1 g2

end Go.Proofs.Qxb6617284a
