/-
  zzB1NestedFits (function 6) and the two zzBytes (functions 5, 14): they only read.
-/
import Derived.Test.Qxb6617284aBase
namespace Go.Proofs.Qxb6617284a
set_option linter.unusedVariables false
open Go.RowKit

/-- The slice value v of n slices of int64 lies, in w, as headers '.slice (A j) (L j) (C j)'. -/
def Heads (w : World) (v : Value) (n : Nat) (A : Nat → Option Addr) (L C : Nat → Nat) : Prop :=
  ∃ (a : Option Addr) (c : Nat), v = .slice a n c ∧ n ≤ c ∧ c ≤ 9223372036854775807 ∧
    (0 < n → ∃ b o, a = some ⟨b, o, none⟩ ∧ ∀ j, j < n → w.cell? ⟨b, o + j, none⟩ = some (.slice (A j) (L j) (C j)))

/-- It returned a bool; if true, every inner slice has at most 1<<17 elements. -/
def NestedQ (n : Nat) (L : Nat → Nat) (e : Ending) : Prop := ∃ r : Bool, e = .returned (.bool r) ∧ (r = true → ∀ j, j < n → L j ≤ 131072)
/-- It returned a bool. -/
def BoolQ (e : Ending) : Prop := ∃ r : Bool, e = .returned (.bool r)

set_option maxHeartbeats 400000 in
theorem nested_full (b o n c : Nat) (A : Nat → Option Addr) (L C : Nat → Nat) (t : Int) (w : World) (hn : n ≤ 9223372036854775807) (ht0 : 0 ≤ t) (ht1 : t ≤ 9223372036854775807)
    (hL : ∀ j, j < n → L j ≤ 9223372036854775807) (h1 : ∀ j, j < n → w.cell? ⟨b, o + j, none⟩ = some (.slice (A j) (L j) (C j))) :
    Calls Try.prog 6 #[.slice (some ⟨b, o, none⟩) n c, .int .i64 t] w fun e w' => NestedQ n L e ∧ w' = w := by
  by_cases htt : 1048576 < t
  · go_enter Try.func6, Try.ntmps6
    go_wp2
    go_ret
    exact ⟨⟨false, rfl, fun h => by cases h⟩, rfl⟩
  go_enter Try.func6, Try.ntmps6
  go_wp2
  go_loop [1, 5] (fun t i => ∃ (k : Nat) (s : Int), k ≤ n ∧ 0 ≤ s ∧ s ≤ 1048576 ∧ i = .int .i64 k ∧ t = .int .i64 s ∧ Hid (∀ j, j < k → L j ≤ 131072)) (fun _ i => n - (intOf i).toNat)
  case atStart => exact ⟨0, t, Nat.zero_le _, ht0, by omega, rfl, rfl, fun j hj => by omega⟩
  case round =>
    obtain ⟨k, s, hk, hs0, hs1, rfl, rfl, HA⟩ := hrel
    by_cases hlt : k < n
    · have g1 := h1 k hlt
      have g2 := hL k hlt
      obtain ⟨Lk, hLk⟩ : ∃ x, x = L k := ⟨_, rfl⟩
      obtain ⟨Ak, hAk⟩ : ∃ x, x = A k := ⟨_, rfl⟩
      obtain ⟨Ck, hCk⟩ : ∃ x, x = C k := ⟨_, rfl⟩
      rw [← hLk, ← hAk, ← hCk] at g1
      rw [← hLk] at g2
      have HLk : Hid (Lk = L k) := hLk
      clear h1 hL hLk hAk hCk
      by_cases hb : 131072 < Lk
      · go_wp2
        go_ret
        exact ⟨⟨false, rfl, fun h => by cases h⟩, rfl⟩
      by_cases hb2 : 1048576 < s + 8 * Lk
      · go_wp2
        go_ret
        exact ⟨⟨false, rfl, fun h => by cases h⟩, rfl⟩
      · go_wp2
        go_round
        case rel =>
          refine ⟨k + 1, s + 8 * Lk, by omega, by omega, by omega, by go_num, by go_num, ?_⟩
          intro j hj
          by_cases hjk : j = k
          · subst hjk; rw [← HLk.out]; omega
          · exact HA.out j (by omega)
        case measure => simp [intOf]; omega
    · clear h1 hL
      go_wp2
      go_ret
      obtain rfl : k = n := by omega
      exact ⟨⟨true, rfl, fun _ => HA.out⟩, rfl⟩

set_option maxHeartbeats 400000 in
theorem nested_none (a : Option Addr) (c : Nat) (t : Int) (w : World) (ht0 : 0 ≤ t) (ht1 : t ≤ 9223372036854775807) :
    Calls Try.prog 6 #[.slice a 0 c, .int .i64 t] w fun e w' => BoolQ e ∧ w' = w := by
  by_cases htt : 1048576 < t
  · go_enter Try.func6, Try.ntmps6
    go_wp2
    go_ret
    exact ⟨⟨false, rfl⟩, rfl⟩
  · go_enter Try.func6, Try.ntmps6
    go_wp2
    refine wp_loop_rounds 1 ?_
    rw [rounds_succ]
    go_wp2
    go_ret
    exact ⟨⟨true, rfl⟩, rfl⟩

theorem nested_any {w : World} {v : Value} {n : Nat} {A : Nat → Option Addr} {L C : Nat → Nat} (h : Heads w v n A L C) (hL : ∀ j, j < n → L j ≤ 9223372036854775807) (t : Int) (ht0 : 0 ≤ t) (ht1 : t ≤ 9223372036854775807) :
    Calls Try.prog 6 #[v, .int .i64 t] w fun e w' => NestedQ n L e ∧ w' = w := by
  obtain ⟨a, c, rfl, l1, m1, r1⟩ := h
  by_cases h0 : 0 < n
  · obtain ⟨b, o, rfl, g⟩ := r1 h0
    exact nested_full b o n c A L C t w (by omega) ht0 ht1 hL g
  · obtain rfl : n = 0 := by omega
    refine (nested_none a c t w ht0 ht1).mono ?_
    rintro e w' ⟨⟨r, rfl⟩, rfl⟩
    exact ⟨⟨r, rfl, fun _ j hj => by omega⟩, rfl⟩

/-! ### zzBytes_FnKeepScriptKeepsEveryRead -/
set_option maxHeartbeats 800000 in
theorem bytes14_full (ak : Option Addr) (nk ck b o n c : Nat) (A : Nat → Option Addr) (L C : Nat → Nat) (w : World) (hk : nk ≤ 9223372036854775807) (hn : n ≤ 9223372036854775807)
    (hL : ∀ j, j < n → L j ≤ 9223372036854775807) (h1 : ∀ j, j < n → w.cell? ⟨b, o + j, none⟩ = some (.slice (A j) (L j) (C j))) :
    Calls Try.prog 14 #[.slice ak nk ck, .slice (some ⟨b, o, none⟩) n c] w fun e w' => BoolQ e ∧ w' = w := by
  by_cases t1 : 1048576 < nk
  · go_enter Try.func14, Try.ntmps14
    go_wp2
    go_ret
    exact ⟨⟨false, rfl⟩, rfl⟩
  by_cases t2 : 1048576 < n
  · go_enter Try.func14, Try.ntmps14
    go_wp2
    go_ret
    exact ⟨⟨false, rfl⟩, rfl⟩
  by_cases t3 : 1048576 < nk + n
  · go_enter Try.func14, Try.ntmps14
    go_wp2
    go_ret
    exact ⟨⟨false, rfl⟩, rfl⟩
  go_enter Try.func14, Try.ntmps14
  go_wp2
  go_loop [5, 6] (fun t i => ∃ (k : Nat) (s : Int), k ≤ n ∧ 0 ≤ s ∧ s ≤ 1048576 ∧ i = .int .i64 k ∧ t = .int .i64 s) (fun _ i => n - (intOf i).toNat)
  case atStart => exact ⟨0, (nk : Int) + n, Nat.zero_le _, by omega, by omega, rfl, rfl⟩
  case round =>
    obtain ⟨k, s, hk, hs0, hs1, rfl, rfl⟩ := hrel
    by_cases hlt : k < n
    · have g1 := h1 k hlt
      have g2 := hL k hlt
      obtain ⟨Lk, hLk⟩ : ∃ x, x = L k := ⟨_, rfl⟩
      obtain ⟨Ak, hAk⟩ : ∃ x, x = A k := ⟨_, rfl⟩
      obtain ⟨Ck, hCk⟩ : ∃ x, x = C k := ⟨_, rfl⟩
      rw [← hLk, ← hAk, ← hCk] at g1
      rw [← hLk] at g2
      clear h1 hL hLk hAk hCk
      by_cases hb : 1048576 < Lk
      · go_wp2
        go_ret
        exact ⟨⟨false, rfl⟩, rfl⟩
      by_cases hb2 : 1048576 < s + Lk
      · go_wp2
        go_ret
        exact ⟨⟨false, rfl⟩, rfl⟩
      · go_wp2
        go_round
        case rel => exact ⟨k + 1, s + Lk, by omega, by omega, by omega, by go_num, by go_num⟩
        case measure => simp [intOf]; omega
    · clear h1 hL
      go_wp2
      go_ret
      exact ⟨⟨true, rfl⟩, rfl⟩

set_option maxHeartbeats 400000 in
theorem bytes14_none (ak a : Option Addr) (nk ck c : Nat) (w : World) (hk : nk ≤ 9223372036854775807) :
    Calls Try.prog 14 #[.slice ak nk ck, .slice a 0 c] w fun e w' => BoolQ e ∧ w' = w := by
  by_cases t1 : 1048576 < nk
  · go_enter Try.func14, Try.ntmps14
    go_wp2
    go_ret
    exact ⟨⟨false, rfl⟩, rfl⟩
  · go_enter Try.func14, Try.ntmps14
    go_wp2
    refine wp_loop_rounds 1 ?_
    rw [rounds_succ]
    go_wp2
    go_ret
    exact ⟨⟨true, rfl⟩, rfl⟩

theorem bytes14_any {w : World} {v : Value} {n : Nat} {A : Nat → Option Addr} {L C : Nat → Nat} (ak : Option Addr) (nk ck : Nat) (hk : nk ≤ 9223372036854775807) (h : Heads w v n A L C) (hL : ∀ j, j < n → L j ≤ 9223372036854775807) :
    Calls Try.prog 14 #[.slice ak nk ck, v] w fun e w' => BoolQ e ∧ w' = w := by
  obtain ⟨a, c, rfl, l1, m1, r1⟩ := h
  by_cases h0 : 0 < n
  · obtain ⟨b, o, rfl, g⟩ := r1 h0
    exact bytes14_full ak nk ck b o n c A L C w hk (by omega) hL g
  · obtain rfl : n = 0 := by omega
    exact bytes14_none ak a nk ck c w hk

/-! ### zzBytes_FnKeepTwiceChangesNothingMoreAndShares -/
set_option maxHeartbeats 1600000 in
theorem bytes5_full (ak : Option Addr) (nk ck b o n c : Nat) (A : Nat → Option Addr) (L C : Nat → Nat) (a2 : Option Addr) (ns cs : Nat) (key : Int) (al : Option Addr) (nl cl : Nat) (w : World) (hk : nk ≤ 9223372036854775807) (hn : n ≤ 9223372036854775807)
    (hs : ns ≤ 9223372036854775807) (hl : nl ≤ 9223372036854775807) (hL : ∀ j, j < n → L j ≤ 9223372036854775807) (h1 : ∀ j, j < n → w.cell? ⟨b, o + j, none⟩ = some (.slice (A j) (L j) (C j))) :
    Calls Try.prog 5 #[.slice ak nk ck, .slice (some ⟨b, o, none⟩) n c, .slice a2 ns cs, .int .i64 key, .slice al nl cl] w fun e w' => BoolQ e ∧ w' = w := by
  by_cases t1 : 1048576 < nk
  · go_enter Try.func5, Try.ntmps5
    go_wp2
    go_ret
    exact ⟨⟨false, rfl⟩, rfl⟩
  by_cases t2 : 1048576 < n
  · go_enter Try.func5, Try.ntmps5
    go_wp2
    go_ret
    exact ⟨⟨false, rfl⟩, rfl⟩
  by_cases t3 : 1048576 < nk + n
  · go_enter Try.func5, Try.ntmps5
    go_wp2
    go_ret
    exact ⟨⟨false, rfl⟩, rfl⟩
  go_enter Try.func5, Try.ntmps5
  go_wp2
  go_loop [11, 12] (fun t i => ∃ (k : Nat) (s : Int), k ≤ n ∧ 0 ≤ s ∧ s ≤ 1048576 ∧ i = .int .i64 k ∧ t = .int .i64 s) (fun _ i => n - (intOf i).toNat)
  case atStart => exact ⟨0, (nk : Int) + n, Nat.zero_le _, by omega, by omega, rfl, rfl⟩
  case round =>
    obtain ⟨k, s, hk, hs0, hs1, rfl, rfl⟩ := hrel
    by_cases hlt : k < n
    · have g1 := h1 k hlt
      have g2 := hL k hlt
      obtain ⟨Lk, hLk⟩ : ∃ x, x = L k := ⟨_, rfl⟩
      obtain ⟨Ak, hAk⟩ : ∃ x, x = A k := ⟨_, rfl⟩
      obtain ⟨Ck, hCk⟩ : ∃ x, x = C k := ⟨_, rfl⟩
      rw [← hLk, ← hAk, ← hCk] at g1
      rw [← hLk] at g2
      clear h1 hL hLk hAk hCk
      by_cases hb : 1048576 < Lk
      · go_wp2
        go_ret
        exact ⟨⟨false, rfl⟩, rfl⟩
      by_cases hb2 : 1048576 < s + Lk
      · go_wp2
        go_ret
        exact ⟨⟨false, rfl⟩, rfl⟩
      · go_wp2
        go_round
        case rel => exact ⟨k + 1, s + Lk, by omega, by omega, by omega, by go_num, by go_num⟩
        case measure => simp [intOf]; omega
    · clear h1 hL
      go_wp2
      all_goals
        go_ret
        first | exact ⟨⟨true, rfl⟩, rfl⟩ | exact ⟨⟨false, rfl⟩, rfl⟩

set_option maxHeartbeats 800000 in
theorem bytes5_none (ak a : Option Addr) (nk ck c : Nat) (a2 : Option Addr) (ns cs : Nat) (key : Int) (al : Option Addr) (nl cl : Nat) (w : World) (hk : nk ≤ 9223372036854775807) (hs : ns ≤ 9223372036854775807) (hl : nl ≤ 9223372036854775807) :
    Calls Try.prog 5 #[.slice ak nk ck, .slice a 0 c, .slice a2 ns cs, .int .i64 key, .slice al nl cl] w fun e w' => BoolQ e ∧ w' = w := by
  by_cases t1 : 1048576 < nk
  · go_enter Try.func5, Try.ntmps5
    go_wp2
    go_ret
    exact ⟨⟨false, rfl⟩, rfl⟩
  · go_enter Try.func5, Try.ntmps5
    go_wp2
    refine wp_loop_rounds 1 ?_
    rw [rounds_succ]
    go_wp2
    all_goals
      go_ret
      first | exact ⟨⟨true, rfl⟩, rfl⟩ | exact ⟨⟨false, rfl⟩, rfl⟩

theorem bytes5_any {w : World} {v : Value} {n : Nat} {A : Nat → Option Addr} {L C : Nat → Nat} (ak : Option Addr) (nk ck : Nat) (hk : nk ≤ 9223372036854775807) (h : Heads w v n A L C) (hL : ∀ j, j < n → L j ≤ 9223372036854775807)
    (a2 : Option Addr) (ns cs : Nat) (key : Int) (al : Option Addr) (nl cl : Nat) (hs : ns ≤ 9223372036854775807) (hl : nl ≤ 9223372036854775807) :
    Calls Try.prog 5 #[.slice ak nk ck, v, .slice a2 ns cs, .int .i64 key, .slice al nl cl] w fun e w' => BoolQ e ∧ w' = w := by
  obtain ⟨a, c, rfl, l1, m1, r1⟩ := h
  by_cases h0 : 0 < n
  · obtain ⟨b, o, rfl, g⟩ := r1 h0
    exact bytes5_full ak nk ck b o n c A L C a2 ns cs key al nl cl w hk (by omega) hs hl hL g
  · obtain rfl : n = 0 := by omega
    exact bytes5_none ak a nk ck c a2 ns cs key al nl cl w hk hs hl

end Go.Proofs.Qxb6617284a
