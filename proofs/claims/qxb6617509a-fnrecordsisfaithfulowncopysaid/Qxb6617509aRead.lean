/-
  zzBytes (function 4) and sameRecs (function 8): they only read.
-/
import Derived.Test.Qxb6617509aBase
namespace Go.Proofs.Qxb6617509a
set_option linter.unusedVariables false
open Go.RowKit Go.Deep

set_option maxHeartbeats 800000 in
theorem bytes_full (b o n c : Nat) (S : Nat → ByteArray) (N : Nat → Int) (w : World) (hn : n ≤ 9223372036854775807) (hS : ∀ j, j < n → (S j).size ≤ 9223372036854775807) (h1 : RecsAt w b o n S N) :
    Calls Try.prog 4 #[.slice (some ⟨b, o, none⟩) n c] w fun e w' => BytesQ n S e ∧ w' = w := by
  by_cases t2 : 1048576 < n
  · go_enter Try.func4, Try.ntmps4
    go_wp2
    go_ret
    exact ⟨⟨false, rfl, fun h => by cases h⟩, rfl⟩
  have H1 : Hid (RecsAt w b o n S N) := h1
  have HS : Hid (∀ j, j < n → (S j).size ≤ 9223372036854775807) := hS
  clear h1 hS
  go_enter Try.func4, Try.ntmps4
  go_wp2
  go_loop [3, 4] (fun t i => ∃ (k : Nat) (s : Int), k ≤ n ∧ 0 ≤ s ∧ s ≤ 1048576 ∧ i = .int .i64 k ∧ t = .int .i64 s ∧ Hid (∀ j, j < k → (S j).size ≤ 1048576)) (fun _ i => n - (intOf i).toNat)
  case atStart => exact ⟨0, (n : Int), Nat.zero_le _, by omega, by omega, rfl, rfl, fun j hj => by omega⟩
  case round =>
    obtain ⟨k, s, hk, hs0, hs1, rfl, rfl, HB⟩ := hrel
    by_cases hlt : k < n
    · have g1 := (H1.out k hlt).1
      have g2 := HS.out k hlt
      obtain ⟨x, hx⟩ : ∃ x, x = S k := ⟨_, rfl⟩
      rw [← hx] at g1 g2
      have HX := hidIt hx
      clear hx
      by_cases hb : 1048576 < x.size
      · go_wp2
        go_ret
        exact ⟨⟨false, rfl, fun h => by cases h⟩, rfl⟩
      by_cases hb2 : 1048576 < s + x.size
      · go_wp2
        go_ret
        exact ⟨⟨false, rfl, fun h => by cases h⟩, rfl⟩
      · go_wp2
        go_round
        case rel =>
          refine ⟨k + 1, s + x.size, by omega, by omega, by omega, by go_num, by go_num, ?_⟩
          intro j hj
          by_cases hjk : j = k
          · subst hjk; rw [← HX.out]; omega
          · exact HB.out j (by omega)
        case measure => simp [intOf]; omega
    · go_wp2
      go_ret
      obtain rfl : k = n := by omega
      exact ⟨⟨true, rfl, fun _ => HB.out⟩, rfl⟩

set_option maxHeartbeats 400000 in
theorem bytes_none (a : Option Addr) (c : Nat) (S : Nat → ByteArray) (w : World) :
    Calls Try.prog 4 #[.slice a 0 c] w fun e w' => BytesQ 0 S e ∧ w' = w := by
  go_enter Try.func4, Try.ntmps4
  go_wp2
  refine wp_loop_rounds 1 ?_
  rw [rounds_succ]
  go_wp2
  go_ret
  exact ⟨⟨true, rfl, fun _ j hj => by omega⟩, rfl⟩

theorem bytes_any {w : World} {v : Value} {n : Nat} {S : Nat → ByteArray} {N : Nat → Int} (h : Rd w v n S N) (hS : ∀ j, j < n → (S j).size ≤ 9223372036854775807) :
    Calls Try.prog 4 #[v] w fun e w' => BytesQ n S e ∧ w' = w := by
  obtain ⟨a, c, rfl, l1, m1, _, r1⟩ := h
  by_cases h0 : 0 < n
  · obtain ⟨b, o, rfl, g⟩ := r1 h0
    exact bytes_full b o n c S N w (by omega) hS g
  · obtain rfl : n = 0 := by omega
    exact bytes_none a c S w

/-! ### sameRecs, at two slices that read alike -/
theorem q22 : ∀ (w : World) (a : Option Addr) (n c : Nat), (binOp .eql 22 (.slice a n c) (.slice none 0 0)).run Try.prog w = .ok (.bool a.isNone) w := fun w a n c => Lib.run_eql_slice_nil w 22 25 a n c 0 0 Try.underlying22
theorem q27 : ∀ (w : World) (a : Option Addr) (n c : Nat), (binOp .eql 27 (.slice a n c) (.slice none 0 0)).run Try.prog w = .ok (.bool a.isNone) w := fun w a n c => Lib.run_eql_slice_nil w 27 28 a n c 0 0 Try.underlying27

set_option maxHeartbeats 400000 in
theorem same_nil (w : World) : Calls Try.prog 8 #[.slice none 0 0, .slice none 0 0] w fun e w' => e = .returned (.bool true) ∧ ∃ n, w' = w.drewN n := by
  have q22 := q22
  have q27 := q27
  go_enter Try.func8, Try.ntmps8
  go_wp2
  refine wp_loop_rounds 1 ?_
  rw [rounds_succ]
  go_wp2
  go_ret
  exact ⟨rfl, 0, rfl⟩

set_option maxHeartbeats 400000 in
theorem same_empty (a1 a2 : Addr) (c1 c2 : Nat) (w : World) : Calls Try.prog 8 #[.slice (some a1) 0 c1, .slice (some a2) 0 c2] w fun e w' => e = .returned (.bool true) ∧ ∃ n, w' = w.drewN n := by
  have q22 := q22
  have q27 := q27
  go_enter Try.func8, Try.ntmps8
  go_wp2
  refine wp_loop_rounds 1 ?_
  rw [rounds_succ]
  go_wp2
  go_ret
  exact ⟨rfl, 0, rfl⟩

set_option maxHeartbeats 800000 in
theorem same_full (b1 o1 c1 b2 o2 c2 n : Nat) (S : Nat → ByteArray) (N : Nat → Int) (w : World) (hn : n ≤ 9223372036854775807) (h1 : RecsAt w b1 o1 n S N) (h2 : RecsAt w b2 o2 n S N) :
    Calls Try.prog 8 #[.slice (some ⟨b1, o1, none⟩) n c1, .slice (some ⟨b2, o2, none⟩) n c2] w fun e w' => e = .returned (.bool true) ∧ ∃ n, w' = w.drewN n := by
  have q22 := q22
  have q27 := q27
  have H1 := hidIt h1
  have H2 := hidIt h2
  clear h1 h2
  go_enter Try.func8, Try.ntmps8
  go_wp2
  go_loopw [5] (fun i wr => ∃ k m : Nat, k ≤ n ∧ i = .int .i64 k ∧ wr = w.drewN m) (fun i _ => n - (intOf i).toNat)
  case atStart => exact ⟨0, 0, Nat.zero_le _, rfl, rfl⟩
  case round =>
    obtain ⟨k, m, hk, rfl, rfl⟩ := hrel
    by_cases hlt : k < n
    · have g1 := (H1.out k hlt).1
      have g1' := (H1.out k hlt).2
      have g2 := (H2.out k hlt).1
      have g2' := (H2.out k hlt).2
      obtain ⟨x, hx⟩ : ∃ x, x = S k := ⟨_, rfl⟩
      obtain ⟨y, hy⟩ : ∃ x, x = N k := ⟨_, rfl⟩
      rw [← hx] at g1 g2
      rw [← hy] at g1' g2'
      clear hx hy
      go_wp2
      go_quiet (fail)
      go_wp2
      go_roundw
      case rel => exact ⟨k + 1, _, by omega, by go_num, rfl⟩
      case measure => simp [intOf]; omega
    · go_wp2
      go_ret
      exact ⟨rfl, _, rfl⟩

end Go.Proofs.Qxb6617509a
