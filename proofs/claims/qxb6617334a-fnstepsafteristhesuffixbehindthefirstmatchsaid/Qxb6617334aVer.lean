/-
  mkVersion (7), wireVersion (22), sameBytes (23).
-/
import Derived.Test.Qxb6617334aBase
namespace Go.Proofs.Qxb6617334a
set_option linter.unusedVariables false
open Go.RowKit Go.Deep

set_option maxHeartbeats 400000 in
theorem mk_any (c cl b s : Int) (w : World) : Calls Try.prog 7 #[.int .u64 c, .int .u64 cl, .int .u64 b, .int .u64 s] w fun e w' => e = .returned (.agg #[.int .u64 c, .int .u64 cl, .int .u64 b, .int .u64 s]) ∧ w' = w.alloc (.cells #[.int .u64 c, .int .u64 cl, .int .u64 b, .int .u64 s] 24) := by
  go_enter Try.func7, Try.ntmps7
  go_wp2
  refine bodyPost_ret (v := .agg #[.int .u64 c, .int .u64 cl, .int .u64 b, .int .u64 s]) (by simp [results, Try.results7, go_sem]) rfl ⟨rfl, rfl⟩

set_option maxHeartbeats 400000 in
theorem wv_any (c cl b s : Int) (w : World) : Calls Try.prog 22 #[.agg #[.int .u64 c, .int .u64 cl, .int .u64 b, .int .u64 s]] w fun e w' => e = .returned (.agg #[.int .u64 c, .int .u64 cl, .int .u64 b, .int .u64 s]) ∧ w' = ((w.alloc (.cells #[.int .u64 c, .int .u64 cl, .int .u64 b, .int .u64 s] 35)).alloc (.cells #[.int .u64 c, .int .u64 cl, .int .u64 b, .int .u64 s] 24)).alloc (.cells #[.int .u64 c, .int .u64 cl, .int .u64 b, .int .u64 s] 24) := by
  have H := hidIt (fun w => mk_any c cl b s w)
  go_enter Try.func22, Try.ntmps22
  go_wp2_with fail
  refine (H.out _).mono ?_
  rintro e w1 ⟨rfl, rfl⟩
  clear H
  go_wp2
  refine bodyPost_ret (v := .agg #[.int .u64 c, .int .u64 cl, .int .u64 b, .int .u64 s]) (by simp [results, Try.results22, go_sem]) rfl ⟨rfl, rfl⟩

/-- The bytes of a slice can be read. -/
def Rdb (w : World) (a : Option Addr) (n : Nat) : Prop := n ≤ 9223372036854775807 ∧ (0 < n → ∃ b o, a = some ⟨b, o, none⟩ ∧ ∀ j, j < n → ∃ x, w.cell? ⟨b, o + j, none⟩ = some (.int .u8 x))

theorem q39 : ∀ (w : World) (a : Option Addr) (n c : Nat), (binOp .eql 39 (.slice a n c) (.slice none 0 0)).run Try.prog w = .ok (.bool a.isNone) w := fun w a n c => Lib.run_eql_slice_nil w 39 5 a n c 0 0 Try.underlying39

set_option maxHeartbeats 800000 in
theorem same_any {w : World} {a : Option Addr} {n c : Nat} (h : Rdb w a n) : Calls Try.prog 23 #[.slice a n c, .slice a n c] w fun e w' => e = .returned (.bool true) ∧ ∃ m, w' = w.drewN m := by
  have q39 := q39
  obtain ⟨hn, h1⟩ := h
  have H1 := hidIt h1
  clear h1
  cases a with
  | none =>
    have h0 : n = 0 := by
      rcases Nat.eq_zero_or_pos n with h | h
      · exact h
      · obtain ⟨_, _, e, _⟩ := H1.out h; cases e
    subst h0
    go_enter Try.func23, Try.ntmps23
    go_wp2
    refine wp_loop_rounds 1 ?_
    rw [rounds_succ]
    go_wp2
    go_ret
    exact ⟨rfl, 0, rfl⟩
  | some a =>
    go_enter Try.func23, Try.ntmps23
    go_wp2
    go_loopw [5] (fun i wr => ∃ k m : Nat, k ≤ n ∧ i = .int .i64 k ∧ wr = w.drewN m) (fun i _ => n - (intOf i).toNat)
    case atStart => exact ⟨0, 0, Nat.zero_le _, rfl, rfl⟩
    case round =>
      obtain ⟨k, m, hk, rfl, rfl⟩ := hrel
      by_cases hlt : k < n
      · obtain ⟨b, o, ea, hb⟩ := H1.out (by omega)
        simp only [Option.some.injEq] at ea
        subst ea
        obtain ⟨x, g1⟩ := hb k hlt
        clear hb
        go_wp2
        go_quiet (fail)
        go_wp2
        go_roundw
        case rel => exact ⟨k + 1, _, by omega, by go_num, rfl⟩
        case measure => simp [intOf]; omega
      · go_wp2
        go_ret
        exact ⟨rfl, _, rfl⟩

end Go.Proofs.Qxb6617334a
