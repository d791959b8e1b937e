/-
  zzB1Clone64 (function 7).
-/
import Derived.Test.Qxb6617284aBase
namespace Go.Proofs.Qxb6617284a
set_option linter.unusedVariables false
open Go.RowKit Go.Deep

theorem made_none : madeCells #[Value.int .i64 0] 0 = ints [] := (part_zero []).symm

theorem clone_nil (n c : Nat) (w : World) : Calls Try.prog 7 #[.slice none n c] w fun e w' => e = .returned (.slice none 0 0) ∧ w' = w := by
  have q22 : ∀ (w : World) (a : Option Addr) (n c : Nat), (binOp .eql 22 (.slice a n c) (.slice none 0 0)).run Try.prog w = .ok (.bool a.isNone) w := fun w a n c => Lib.run_eql_slice_nil w 22 2 a n c 0 0 Try.underlying22
  go_enter Try.func7, Try.ntmps7
  go_wp2
  go_ret
  exact ⟨rfl, rfl⟩

set_option maxHeartbeats 400000 in
theorem clone_empty (a : Addr) (c : Nat) (w : World) : Calls Try.prog 7 #[.slice (some a) 0 c] w fun e w' => e = .returned (.slice (some ⟨w.heap.size, 0, none⟩) 0 0) ∧ w' = w.alloc (.cells (ints []) 2) := by
  have q22 : ∀ (w : World) (a : Option Addr) (n c : Nat), (binOp .eql 22 (.slice a n c) (.slice none 0 0)).run Try.prog w = .ok (.bool a.isNone) w := fun w a n c => Lib.run_eql_slice_nil w 22 2 a n c 0 0 Try.underlying22
  have hmk : ∀ w, (Instr.makeSlice 22 (.int .i64 0) (.int .i64 0)).run Try.prog w = .ok (.slice (some ⟨w.heap.size, 0, none⟩) 0 0) (w.alloc (.cells (madeCells #[.int .i64 0] 0) 2)) := fun w => run_make_row' (P := Try.prog) 22 2 (.int .i64 0) 8 Try.underlying22 Try.info2 rfl .i64 .i64 0 (by omega) (by omega) w
  go_enter Try.func7, Try.ntmps7
  go_wp2
  refine wp_loop_rounds 1 ?_
  rw [rounds_succ]
  go_wp2
  go_ret
  exact ⟨rfl, by rw [made_none]⟩

set_option maxHeartbeats 400000 in
theorem clone_full (b o c : Nat) (xs : List Int) (w : World) (hm : xs.length * 8 ≤ 281474976710656)
    (h1 : ∀ j, j < xs.length → w.cell? ⟨b, o + j, none⟩ = some (.int .i64 (xs[j]?.getD 0))) :
    Calls Try.prog 7 #[.slice (some ⟨b, o, none⟩) xs.length c] w fun e w' => e = .returned (.slice (some ⟨w.heap.size, 0, none⟩) xs.length xs.length) ∧ w' = w.alloc (.cells (ints xs) 2) := by
  have q22 : ∀ (w : World) (a : Option Addr) (n c : Nat), (binOp .eql 22 (.slice a n c) (.slice none 0 0)).run Try.prog w = .ok (.bool a.isNone) w := fun w a n c => Lib.run_eql_slice_nil w 22 2 a n c 0 0 Try.underlying22
  obtain ⟨L, hL⟩ : ∃ L, L = xs.length := ⟨_, rfl⟩
  have hP0 := part_zero xs
  rw [← hL] at h1 hm hP0 ⊢
  have HL : Hid (L = xs.length) := hL
  have HP0 : Hid (part xs 0 = madeCells #[.int .i64 0] L) := hP0
  clear hL hP0
  have hmk := run_make_row' (P := Try.prog) 22 2 (.int .i64 0) 8 Try.underlying22 Try.info2 rfl .i64 .i64 L (by omega) (by omega)
  go_enter Try.func7, Try.ntmps7
  go_wp2
  go_loopw [4] (fun i wr => ∃ k : Nat, k ≤ L ∧ i = .int .i64 k ∧ wr = w.alloc (.cells (part xs k) 2)) (fun i _ => L - (intOf i).toNat)
  case atStart => exact ⟨0, Nat.zero_le _, rfl, by rw [HP0.out]⟩
  case round =>
    clear hmk
    obtain ⟨k, hk, rfl, rfl⟩ := hrel
    by_cases hlt : k < L
    · have hkx : k < xs.length := by have := HL.out; omega
      obtain ⟨x, hx⟩ : ∃ x, x = xs[k]?.getD 0 := ⟨_, rfl⟩
      have g1 := h1 k hlt
      rw [← hx] at g1
      have g1' : ∀ o', (w.alloc o').cell? ⟨b, o + k, none⟩ = some (.int .i64 x) := fun o' => (World.cell?_alloc_lt _ _ _ (World.block_lt_of_cell? _ _ g1)).trans g1
      obtain ⟨X, hX⟩ : ∃ X, X = part xs k := ⟨_, rfl⟩
      have hXs : X.size = L := by rw [hX, HL.out]; exact part_size (by omega)
      have hXk : X[k]? = some (.int .i64 0) := by rw [hX]; exact part_at hkx
      have HS : Hid (X.setIfInBounds k (.int .i64 x) = part xs (k + 1)) := by rw [hX, hx]; exact part_succ hkx
      rw [← hX]
      clear h1 hX hx
      go_wp2
      go_roundw
      case rel => exact ⟨k + 1, by omega, by go_num, by rw [HS.out]⟩
      case measure => simp [intOf]; omega
    · clear h1
      go_wp2
      go_ret
      obtain rfl : k = L := by omega
      exact ⟨rfl, by rw [HL.out, part_full]⟩

/-- zzB1Clone64 at a slice that is not nil: a new block of its own. -/
theorem clone_some {w : World} {a : Addr} {n c : Nat} {xs : List Int} (h : Rd w (.slice (some a) n c) xs) (hm : xs.length * 8 ≤ 281474976710656) :
    Calls Try.prog 7 #[.slice (some a) n c] w fun e w' => e = .returned (.slice (some ⟨w.heap.size, 0, none⟩) xs.length xs.length) ∧ w' = w.alloc (.cells (ints xs) 2) := by
  obtain ⟨a1, c1, he, l1, m1, r1⟩ := h
  simp only [Value.slice.injEq] at he
  obtain ⟨rfl, rfl, rfl⟩ := he
  by_cases h0 : xs = []
  · subst h0
    exact clone_empty a c w
  · obtain ⟨b, o, he, g⟩ := r1 h0
    simp only [Option.some.injEq] at he
    subst he
    exact clone_full b o c xs w hm g

end Go.Proofs.Qxb6617284a
