/-
  After (13) where Made is nil.
-/
import Derived.Test.Qxb6617334aWire
namespace Go.Proofs.Qxb6617334a
set_option linter.unusedVariables false
open Go.RowKit Go.Deep

set_option maxHeartbeats 1600000 in
theorem after_none {w : World} {p : Nat} {s0 s1 s2 s3 h0 h1 h2 h3 : Int} {a : Option Addr} (h : Head w p 0 s0 s1 s2 s3 a 0 0) (hne : ev h0 h1 h2 h3 s0 s1 s2 s3 = false) :
    Calls Try.prog 13 #[.pointer (some ⟨p, 0, none⟩), .agg #[.int .u64 h0, .int .u64 h1, .int .u64 h2, .int .u64 h3]] w fun e w' => e = .returned (.tuple #[.pointer none, .bool false]) ∧ Below w.heap.size w w' := by
  have hp : p < w.heap.size := World.block_lt_of_cell? _ _ h.h0
  have k2 : ∀ i v o', w.cell? ⟨p, i, none⟩ = some v → (w.alloc o').cell? ⟨p, i, none⟩ = some v := fun i v o' hv => (World.cell?_alloc_lt _ _ _ hp).trans hv
  have e0 := fun o' => k2 _ _ o' h.h0
  have e1 := fun o' => k2 _ _ o' h.h1
  have e2 := fun o' => k2 _ _ o' h.h2
  have e3 := fun o' => k2 _ _ o' h.h3
  have e4 := fun o' => k2 _ _ o' h.h4
  simp only [Nat.zero_add] at e1 e2 e3 e4
  have q := eq24 h0 h1 h2 h3 s0 s1 s2 s3
  rw [hne] at q
  clear h k2
  go_enter Try.func13, Try.ntmps13
  go_wp2
  go_quiet (fail)
  go_wp2
  refine wp_loop_rounds 1 ?_
  rw [rounds_succ]
  go_wp2
  go_ret2
  exact ⟨rfl, ⟨rfl, rfl, rfl, by simp, fun k hk => Below.heap_alloc _ _ _ hk⟩⟩

end Go.Proofs.Qxb6617334a
