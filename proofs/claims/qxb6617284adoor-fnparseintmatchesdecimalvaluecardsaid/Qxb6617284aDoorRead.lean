/-
  The reading functions: the two zzBytes (5, 14), zzB1AllDigits (6), zzB1NotAbove (8), zzB1SameText (15).
-/
import Derived.Test.Qxb6617284aDoorBase
namespace Go.Proofs.Qxb6617284aDoor
set_option linter.unusedVariables false
open Go.RowKit Go.Deep

set_option maxHeartbeats 400000 in
theorem bytes14_any (a : Option Addr) (n c : Nat) (w : World) (hn : n ≤ 9223372036854775807) : Calls Tryd.prog 14 #[.slice a n c] w fun e w' => TrueQ (n ≤ 1048576) e ∧ w' = w := by
  by_cases h : 1048576 < n
  · go_enter Tryd.func14, Tryd.ntmps14
    go_wp2
    go_ret
    exact ⟨⟨false, rfl, fun h => by cases h⟩, rfl⟩
  · go_enter Tryd.func14, Tryd.ntmps14
    go_wp2
    go_ret
    exact ⟨⟨true, rfl, fun _ => by omega⟩, rfl⟩

set_option maxHeartbeats 400000 in
theorem bytes5_any (a : Option Addr) (n c : Nat) (w : World) (hn : n ≤ 9223372036854775807) : Calls Tryd.prog 5 #[.slice a n c] w fun e w' => TrueQ (n ≤ 1048576) e ∧ w' = w := by
  by_cases h : 1048576 < n
  · go_enter Tryd.func5, Tryd.ntmps5
    go_wp2
    go_ret
    exact ⟨⟨false, rfl, fun h => by cases h⟩, rfl⟩
  · go_enter Tryd.func5, Tryd.ntmps5
    go_wp2
    go_ret
    exact ⟨⟨true, rfl, fun _ => by omega⟩, rfl⟩

set_option maxHeartbeats 800000 in
theorem digits_any (b o c L f : Nat) (l : List UInt8) (w : World) (hL : Hid (L = l.length)) (hn : L ≤ 9223372036854775807) (hf : f ≤ L) (h : Bytes w b o l) :
    Calls Tryd.prog 6 #[.slice (some ⟨b, o, none⟩) L c, .int .i64 (f : Int)] w fun e w' => TrueQ (Dig (l.drop f)) e ∧ w' = w := by
  have H := hidIt h
  clear h
  go_enter Tryd.func6, Tryd.ntmps6
  go_wp2
  go_loop [5] (fun i => ∃ k : Nat, f ≤ k ∧ k ≤ L ∧ i = .int .i64 k ∧ Hid (∀ j, f ≤ j → j < k → 48 ≤ byteAt l j ∧ byteAt l j ≤ 57)) (fun i => L - (intOf i).toNat)
  case atStart => exact ⟨f, Nat.le_refl _, hf, rfl, fun j h1 h2 => by omega⟩
  case round =>
    obtain ⟨k, hfk, hk, rfl, HD⟩ := hrel
    by_cases hlt : k < L
    · have g1 := H.out k (by rw [← hL.out]; exact hlt)
      obtain ⟨x, hx⟩ : ∃ x, x = byteAt l k := ⟨_, rfl⟩
      have x0 := byteAt_lo l k
      have x1 := byteAt_hi l k
      rw [← hx] at g1 x0 x1
      have HX := hidIt hx
      clear hx
      by_cases q1 : x < 48
      · go_wp2
        go_ret
        exact ⟨⟨false, rfl, fun h => by cases h⟩, rfl⟩
      by_cases q2 : 57 < x
      · go_wp2
        go_ret
        exact ⟨⟨false, rfl, fun h => by cases h⟩, rfl⟩
      · go_wp2
        go_round
        case rel => exact ⟨k + 1, by omega, by omega, by go_num, dig_step hfk (by rw [← hL.out]; exact hlt) HD.out (by rw [← HX.out]; omega) (by rw [← HX.out]; omega)⟩
        case measure => simp [intOf]; omega
    · go_wp2
      go_ret
      obtain rfl : k = L := by omega
      exact ⟨⟨true, rfl, fun _ => dig_of (fun j h1 h2 => HD.out j h1 (by rw [hL.out]; exact h2))⟩, rfl⟩

theorem drew3 (w : World) (a b c : Nat) : ((w.drewN a).drewN b).drewN c = w.drewN (a + b + c) := by rw [World.drewN_drewN, World.drewN_drewN, Nat.add_assoc]
theorem str_at (s : ByteArray) {k : Nat} (h : k < s.size) : (s[k].toNat : Int) = byteAt s.data.toList k := by
  have h2 : k < s.data.toList.length := by simpa using h
  rw [byteAt, List.getElem?_eq_getElem h2]
  simp only [Option.getD_some, Array.getElem_toList]
  rfl
theorem str_len (s : ByteArray) : s.data.toList.length = s.size := by simp

theorem ne_at {xs ys : List UInt8} {k : Nat} (e : byteAt xs k ≠ byteAt ys k) : xs ≠ ys := by
  intro h; subst h; exact e rfl

set_option maxHeartbeats 800000 in
theorem text_any (b o c L : Nat) (l : List UInt8) (s : ByteArray) (w : World) (hL : Hid (L = l.length)) (hn : L ≤ 9223372036854775807) (hs : s.size ≤ 9223372036854775807) (h : Bytes w b o l) :
    Calls Tryd.prog 15 #[.slice (some ⟨b, o, none⟩) L c, .string s] w fun e w' => e = .returned (.bool (decide (l = s.data.toList))) ∧ ∃ n, w' = w.drewN n := by
  have H := hidIt h
  clear h
  by_cases hl : ((L : Int) != (s.size : Int)) = true
  · go_enter Tryd.func15, Tryd.ntmps15
    go_wp2
    go_ret
    refine ⟨ret_bool ?_, 0, rfl⟩
    symm
    refine decide_eq_false (fun he => ?_)
    have h1 := hL.out
    have h2 := str_len s
    rw [← he] at h2
    simp at hl
    omega
  have hl' : ((L : Int) != (s.size : Int)) = false := by simpa using hl
  clear hl
  have HLL : Hid (L = s.size) := hidIt (by simp at hl'; omega)
  go_enter Tryd.func15, Tryd.ntmps15
  go_wp2
  go_loopw [5] (fun i wr => ∃ k n : Nat, k ≤ L ∧ i = .int .i64 k ∧ Hid (l.take k = s.data.toList.take k) ∧ wr = w.drewN n) (fun i _ => L - (intOf i).toNat)
  case atStart => exact ⟨0, 0, Nat.zero_le _, rfl, rfl, rfl⟩
  case round =>
    obtain ⟨k, n, hk, rfl, HE, rfl⟩ := hrel
    by_cases hlt : k < L
    · have g1 := H.out k (by rw [← hL.out]; exact hlt)
      have hks : k < s.size := by have := HLL.out; omega
      have HY := hidIt (str_at s hks)
      obtain ⟨x, hx⟩ : ∃ x, x = byteAt l k := ⟨_, rfl⟩
      have x0 := byteAt_lo l k
      have x1 := byteAt_hi l k
      rw [← hx] at g1 x0 x1
      have HX := hidIt hx
      clear hx
      by_cases hxy : (x != (s[k].toNat : Int)) = true
      · go_wp2
        go_quiet (fail)
        go_wp2
        go_ret
        refine ⟨ret_bool ?_, _, World.drewN_drewN _ _ _⟩
        symm
        refine decide_eq_false (ne_at (k := k) ?_)
        rw [← HX.out, ← HY.out]
        simpa using hxy
      · have hxy' : (x != (s[k].toNat : Int)) = false := by simpa using hxy
        clear hxy
        go_wp2
        go_quiet (fail)
        go_wp2
        go_roundw
        case rel =>
          exact ⟨k + 1, _, by omega, by go_num, take_succ_eq HE.out (by have := hL.out; omega) (by rw [str_len]; exact hks) (by rw [← HX.out, ← HY.out]; simpa using hxy'), rfl⟩
        case measure => simp [intOf]; omega
    · go_wp2
      go_ret
      refine ⟨ret_bool ?_, _, rfl⟩
      have h1 := hL.out
      have h2 := HLL.out
      have hE := HE.out
      rw [List.take_of_length_le (by omega), List.take_of_length_le (by rw [str_len]; omega)] at hE
      simp [hE]

set_option maxHeartbeats 800000 in
theorem notAbove_any (b o c L : Nat) (l : List UInt8) (s : ByteArray) (w : World) (hL : Hid (L = l.length)) (hn : L ≤ 9223372036854775807) (hs : s.size ≤ 9223372036854775807) (h : Bytes w b o l)
    (hd : Hid (Dig l)) (hds : Hid (Dig s.data.toList)) (hc : Hid (Cn l)) (hcs : Hid (Cn s.data.toList)) :
    Calls Tryd.prog 8 #[.slice (some ⟨b, o, none⟩) L c, .string s] w fun e w' => e = .returned (.bool (decide (dv l ≤ dv s.data.toList))) ∧ ∃ n, w' = w.drewN n := by
  have H := hidIt h
  clear h
  by_cases hl : ((L : Int) != (s.size : Int)) = true
  · have HA : Hid (decide (L < s.size) = decide (dv l ≤ dv s.data.toList)) := by
      have h1 := hL.out
      have h2 := str_len s
      rw [← lens_answer hc.out hcs.out hd.out hds.out (by simp at hl; omega)]
      exact decide_eq_decide.2 (by omega)
    go_enter Tryd.func8, Tryd.ntmps8
    go_wp2
    go_ret
    exact ⟨ret_bool HA.out, 0, rfl⟩
  have hl' : ((L : Int) != (s.size : Int)) = false := by simpa using hl
  clear hl
  have HLL : Hid (L = s.size) := hidIt (by simp at hl'; omega)
  go_enter Tryd.func8, Tryd.ntmps8
  go_wp2
  go_loopw [5] (fun i wr => ∃ k n : Nat, k ≤ L ∧ i = .int .i64 k ∧ Hid (l.take k = s.data.toList.take k) ∧ wr = w.drewN n) (fun i _ => L - (intOf i).toNat)
  case atStart => exact ⟨0, 0, Nat.zero_le _, rfl, rfl, rfl⟩
  case round =>
    obtain ⟨k, n, hk, rfl, HE, rfl⟩ := hrel
    by_cases hlt : k < L
    · have g1 := H.out k (by rw [← hL.out]; exact hlt)
      have hks : k < s.size := by have := HLL.out; omega
      have HY := hidIt (str_at s hks)
      obtain ⟨x, hx⟩ : ∃ x, x = byteAt l k := ⟨_, rfl⟩
      have x0 := byteAt_lo l k
      have x1 := byteAt_hi l k
      rw [← hx] at g1 x0 x1
      have HX := hidIt hx
      clear hx
      by_cases hxy : (x != (s[k].toNat : Int)) = true
      · have HA : Hid (decide (x < (s[k].toNat : Int)) = decide (dv l ≤ dv s.data.toList)) := by
          have h1 := hL.out
          have h2 := HLL.out
          have h3 : x ≠ (s[k].toNat : Int) := by simpa using hxy
          rw [HX.out, HY.out] at h3 ⊢
          rw [← part_answer (k := k) hd.out hds.out (by rw [str_len]; omega) (by omega) HE.out (by simp only [byteAt] at h3; omega)]
          simp only [byteAt]
          exact decide_eq_decide.2 (by omega)
        go_wp2
        go_quiet (fail)
        go_wp2
        go_quiet (fail)
        go_wp2
        go_ret
        exact ⟨ret_bool HA.out, _, drew3 _ _ _ _⟩
      · have hxy' : (x != (s[k].toNat : Int)) = false := by simpa using hxy
        clear hxy
        go_wp2
        go_quiet (fail)
        go_wp2
        go_roundw
        case rel =>
          exact ⟨k + 1, _, by omega, by go_num, take_succ_eq HE.out (by have := hL.out; omega) (by rw [str_len]; exact hks) (by rw [← HX.out, ← HY.out]; simpa using hxy'), rfl⟩
        case measure => simp [intOf]; omega
    · go_wp2
      go_ret
      refine ⟨ret_bool ?_, _, rfl⟩
      have h1 := hL.out
      have h2 := HLL.out
      have hE := HE.out
      rw [List.take_of_length_le (by omega), List.take_of_length_le (by rw [str_len]; omega)] at hE
      simp [hE]

end Go.Proofs.Qxb6617284aDoor
