/-
  Two versions compared: '==' and '!=' at the struct types 24 and 35.
-/
import Derived.Test.Qxb6617334aVer
namespace Go.Proofs.Qxb6617334a
set_option linter.unusedVariables false
open Go.RowKit Go.Deep

def ev (c cl b s h0 h1 h2 h3 : Int) : Bool := c == h0 && cl == h1 && b == h2 && s == h3

theorem ev_self (c cl b s : Int) : ev c cl b s c cl b s = true := by simp [ev]
theorem ev_true {c cl b s h0 h1 h2 h3 : Int} (h : ev c cl b s h0 h1 h2 h3 = true) : c = h0 ∧ cl = h1 ∧ b = h2 ∧ s = h3 := by
  simp [ev] at h
  exact ⟨h.1.1.1, h.1.1.2, h.1.2, h.2⟩
theorem ev_comm (c cl b s h0 h1 h2 h3 : Int) : ev c cl b s h0 h1 h2 h3 = ev h0 h1 h2 h3 c cl b s := by
  simp only [ev, Bool.beq_comm]

theorem eq24 (c cl b s h0 h1 h2 h3 : Int) (w : World) : (binOp .eql 24 (.agg #[.int .u64 c, .int .u64 cl, .int .u64 b, .int .u64 s]) (.agg #[.int .u64 h0, .int .u64 h1, .int .u64 h2, .int .u64 h3])).run Try.prog w = .ok (.bool (ev c cl b s h0 h1 h2 h3)) w := by
  unfold ev
  simp [go_sem, Try.underlying24, Try.underlying22]
  repeat' split
  all_goals simp_all

theorem ne24 (c cl b s h0 h1 h2 h3 : Int) (w : World) : (binOp .neq 24 (.agg #[.int .u64 c, .int .u64 cl, .int .u64 b, .int .u64 s]) (.agg #[.int .u64 h0, .int .u64 h1, .int .u64 h2, .int .u64 h3])).run Try.prog w = .ok (.bool (!ev c cl b s h0 h1 h2 h3)) w := by
  unfold ev
  simp [go_sem, Try.underlying24, Try.underlying22]
  repeat' split
  all_goals simp_all

theorem eq35 (c cl b s h0 h1 h2 h3 : Int) (w : World) : (binOp .eql 35 (.agg #[.int .u64 c, .int .u64 cl, .int .u64 b, .int .u64 s]) (.agg #[.int .u64 h0, .int .u64 h1, .int .u64 h2, .int .u64 h3])).run Try.prog w = .ok (.bool (ev c cl b s h0 h1 h2 h3)) w := by
  unfold ev
  simp [go_sem, Try.underlying35, Try.underlying22]
  repeat' split
  all_goals simp_all

theorem ne35 (c cl b s h0 h1 h2 h3 : Int) (w : World) : (binOp .neq 35 (.agg #[.int .u64 c, .int .u64 cl, .int .u64 b, .int .u64 s]) (.agg #[.int .u64 h0, .int .u64 h1, .int .u64 h2, .int .u64 h3])).run Try.prog w = .ok (.bool (!ev c cl b s h0 h1 h2 h3)) w := by
  unfold ev
  simp [go_sem, Try.underlying35, Try.underlying22]
  repeat' split
  all_goals simp_all

end Go.Proofs.Qxb6617334a
