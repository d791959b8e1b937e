/-
  toWireSteps (12).
-/
import Derived.Test.Qxb6617334aAfter
import Derived.Deep.RegionHeld3
import Derived.Test.Qxb6617334aSame
import Derived.Test.Qxb6617334aStep
namespace Go.Proofs.Qxb6617334a
set_option linter.unusedVariables false
open Go.RowKit Go.Deep

theorem frozen_block {w w' : World} {g i : Nat} (h : w'.heap[g]? = w.heap[g]?) : w'.frozen? ⟨g, i, none⟩ = w.frozen? ⟨g, i, none⟩ := by
  unfold World.frozen?
  simp only [h]

theorem n36 : ∀ (w : World) (a : Option Addr) (n c : Nat), (binOp .neq 36 (.slice a n c) (.slice none 0 0)).run Try.prog w = .ok (.bool (!a.isNone)) w := fun w a n c => run_neq_slice_nil_any w 36 41 a n c 0 0 Try.underlying36

theorem alloc4_new (w : World) (A B C D : Obj) : (((((w.alloc A).alloc B).alloc C).alloc D)).heap[w.heap.size + 3]? = some D := by
  have := heap_alloc_new (((w.alloc A).alloc B).alloc C) D
  rw [show (((w.alloc A).alloc B).alloc C).heap.size = w.heap.size + 3 by simp] at this
  exact this

set_option maxHeartbeats 400000 in
theorem wire_nil (w : World) : Calls Try.prog 12 #[.pointer none] w fun e w' => e = .returned (.pointer none) ∧ w' = w := by
  go_enter Try.func12, Try.ntmps12
  go_wp2
  go_ret
  exact ⟨rfl, rfl⟩

/-- How toWireSteps ends at a struct whose Made is nil. -/
def WireQ (w : World) (s0 s1 s2 s3 : Int) (a : Option Addr) (n : Nat) (X : Nat → St) (e : Ending) (w' : World) : Prop :=
  ∃ g, e = .returned (.pointer (some ⟨g, 0, none⟩)) ∧ Below w.heap.size w w' ∧ w.heap.size ≤ g ∧ Head w' g 0 s0 s1 s2 s3 a n n ∧ (0 < n → ∃ G, a = some ⟨G, 0, none⟩ ∧ w.heap.size ≤ G ∧ Steps w' G 0 n X)

theorem wire_end {w wb : World} {s0 s1 s2 s3 : Int} {a : Option Addr} {n : Nat} {X : Nat → St} (hb : Below w.heap.size w wb) (hS : 0 < n → ∃ G, a = some ⟨G, 0, none⟩ ∧ w.heap.size ≤ G ∧ Steps wb G 0 n X) (A B C : Obj) :
    WireQ w s0 s1 s2 s3 a n X (.returned (.pointer (some ⟨wb.heap.size + 1 + 1 + 1, 0, none⟩))) ((((wb.alloc A).alloc B).alloc C).alloc (.cells #[.int .u64 s0, .int .u64 s1, .int .u64 s2, .int .u64 s3, .slice a n n] 44)) := by
  have hg := alloc4_new wb A B C (.cells #[.int .u64 s0, .int .u64 s1, .int .u64 s2, .int .u64 s3, .slice a n n] 44)
  generalize hD : Obj.cells #[.int .u64 s0, .int .u64 s1, .int .u64 s2, .int .u64 s3, .slice a n n] 44 = D at hg ⊢
  have hold : ∀ k, k < wb.heap.size → ((((wb.alloc A).alloc B).alloc C).alloc D).heap[k]? = wb.heap[k]? := fun k hk => by
    rw [Below.heap_alloc _ _ _ (by simp; omega), Below.heap_alloc _ _ _ (by simp; omega), Below.heap_alloc _ _ _ (by simp; omega), Below.heap_alloc _ _ _ hk]
  have hz : ((((wb.alloc A).alloc B).alloc C).alloc D).heap.size = wb.heap.size + 4 := by simp
  have hsz := hb.size
  have q1 : ((((wb.alloc A).alloc B).alloc C).alloc D).os = w.os := hb.os
  have q2 : ((((wb.alloc A).alloc B).alloc C).alloc D).tape = w.tape := hb.tape
  have q3 : ((((wb.alloc A).alloc B).alloc C).alloc D).output = w.output := hb.output
  generalize ((((wb.alloc A).alloc B).alloc C).alloc D) = W at hg hold hz q1 q2 q3 ⊢
  refine ⟨_, rfl, ⟨q1, q2, q3, by omega, fun k hk => (hold k (by omega)).trans (hb.block k hk)⟩, by omega, ?_, fun h0 => ?_⟩
  · subst hD
    have hg' : W.heap[wb.heap.size + 1 + 1 + 1]? = some (Obj.cells #[.int .u64 s0, .int .u64 s1, .int .u64 s2, .int .u64 s3, .slice a n n] 44) := hg
    constructor <;> simp [World.cell?, hg']
  · obtain ⟨G, e, hG, hS'⟩ := hS h0
    exact ⟨G, e, hG, hS'.kept (hold G (World.block_lt_of_cell? _ _ (hS' 0 h0).c0))⟩

theorem WInv.start (w : World) (n : Nat) (X : Nat → St) (ty : TypeId) (Z : Array Value) (hZ : Z.size = n * 10) : WInv w n X 0 (w.alloc (.cells Z ty)) := by
  refine ⟨below_alloc _ _, by simp, fun j hj => ⟨?_, ?_⟩, fun j hj => by omega⟩
  · rw [World.cell?_alloc_at Z ty _ _ rfl, Array.getElem?_eq_getElem (by omega)]; rfl
  · exact World.frozen?_alloc_at Z ty _ _ rfl

theorem Try.info54 : (Try.prog.info? 54).map (fun i => (i.zero.map (fun z => z.cells.size), i.size, i.bytes)) = some (some 10, 10, 112) := by kernel_rfl
theorem make_steps (n : Nat) (hn : n ≤ 16384) : ∃ Z : Array Value, Z.size = n * 10 ∧ ∀ w, (Instr.makeSlice 42 (.int .i64 (n : Int)) (.int .i64 (n : Int))).run Try.prog w = .ok (.slice (some ⟨w.heap.size, 0, none⟩) n n) (w.alloc (.cells Z 54)) := by
  obtain ⟨i, hi, hzz⟩ := Option.map_eq_some_iff.1 Try.info54
  simp only [Prod.mk.injEq] at hzz
  obtain ⟨hz, hs, hb⟩ := hzz
  obtain ⟨z, hz1, hz2⟩ := Option.map_eq_some_iff.1 hz
  refine ⟨madeCells z.cells (n * 10), size_madeCells _ _, fun w => ?_⟩
  have hr := run_make (P := Try.prog) w 42 54 i z Try.underlying42 hi hz1 .i64 .i64 n n (by omega) (Int.le_refl _) (by rw [hb]; omega) (by omega)
  simp only [Int.toNat_natCast, hs] at hr
  exact hr

set_option maxRecDepth 100000 in
set_option maxHeartbeats 1600000 in
theorem wire_none {w : World} {p q : Nat} {s0 s1 s2 s3 : Int} (h : Head w p q s0 s1 s2 s3 none 0 0) (X : Nat → St) :
    Calls Try.prog 12 #[.pointer (some ⟨p, q, none⟩)] w (WireQ w s0 s1 s2 s3 none 0 X) := by
  have n36 := n36
  have HW := hidIt (fun w => wv_any s0 s1 s2 s3 w)
  obtain ⟨e0, e1, e2, e3, e4⟩ := h
  go_enter Try.func12, Try.ntmps12
  go_wp2_with fail
  refine (HW.out _).mono ?_
  rintro e w1 ⟨rfl, rfl⟩
  clear HW
  go_wp2
  go_ret
  exact wire_end (Below.refl _ _) (fun h => by omega) _ _ _

set_option maxRecDepth 100000 in
set_option maxHeartbeats 3200000 in
theorem wire_some {w : World} {p q : Nat} {s0 s1 s2 s3 : Int} {a : Addr} {n c : Nat} {X : Nat → St} (h : Head w p q s0 s1 s2 s3 (some a) n c) (hn : n ≤ 16384) (hX : 0 < n → ∃ b o, a = ⟨b, o, none⟩ ∧ Steps w b o n X) :
    Calls Try.prog 12 #[.pointer (some ⟨p, q, none⟩)] w (WireQ w s0 s1 s2 s3 (some ⟨w.heap.size, 0, none⟩) n X) := by
  have n36 := n36
  obtain ⟨Z, hZ, hmk⟩ := make_steps n hn
  have HI0 := hidIt (WInv.start w n X 54 Z hZ)
  have HH := hidIt h
  have HX := hidIt hX
  have e4 := h.h4
  have hp : p < w.heap.size := World.block_lt_of_cell? _ _ h.h0
  have d4 : ∀ o', (w.alloc o').cell? ⟨p, q + 4, none⟩ = some (.slice (some a) n c) := fun o' => (World.cell?_alloc_lt _ _ _ hp).trans e4
  clear h hX hZ
  go_enter Try.func12, Try.ntmps12
  go_wp2
  go_loopw [4] (fun i wr => ∃ k : Nat, k ≤ n ∧ i = .int .i64 k ∧ Hid (WInv w n X k wr)) (fun i _ => n - (intOf i).toNat)
  case atStart => exact ⟨0, Nat.zero_le _, rfl, HI0.out⟩
  case round =>
    clear hmk HI0 d4 e4
    obtain ⟨k, hk, rfl, HI⟩ := hrel
    have hHr := HH.out.kept (HI.out.bel.block p hp)
    have r4 := hHr.h4
    by_cases hlt : k < n
    · clear hHr
      obtain ⟨b, o, rfl, hS⟩ := HX.out (by omega)
      have hSr := hS.kept (HI.out.bel.block b (World.block_lt_of_cell? _ _ (hS k hlt).c0))
      obtain ⟨x0, x1, x2, x3, x4, x5, x6, x7, x8, x9⟩ := hSr k hlt
      clear hS hSr
      obtain ⟨x, hx⟩ : ∃ x, x = X k := ⟨_, rfl⟩
      rw [← hx] at x0 x1 x2 x3 x4 x5 x6 x7 x8 x9
      have HXk := hidIt hx
      clear hx
      obtain ⟨vc0, cl, vb, vs, ses, seq, stp, op, va, vl, vc, ra, rl, rc⟩ := x
      simp only at x0 x1 x2 x3 x4 x5 x6 x7 x8 x9
      go_upto_region 10 with fail
      have HBm := hidIt (below_alloc wr (.cells #[.int .u64 vc0, .int .u64 cl, .int .u64 vb, .int .u64 vs, .int .u64 ses, .int .u64 seq, .int .u64 stp, .int .u8 op, .slice va vl vc, .slice ra rl rc] 41))
      have y0 : (wr.alloc (.cells #[.int .u64 vc0, .int .u64 cl, .int .u64 vb, .int .u64 vs, .int .u64 ses, .int .u64 seq, .int .u64 stp, .int .u8 op, .slice va vl vc, .slice ra rl rc] 41)).cell? ⟨wr.heap.size, 0, none⟩ = some (.int .u64 vc0) := World.cell?_alloc_at _ 41 _ _ rfl
      have y1 : (wr.alloc (.cells #[.int .u64 vc0, .int .u64 cl, .int .u64 vb, .int .u64 vs, .int .u64 ses, .int .u64 seq, .int .u64 stp, .int .u8 op, .slice va vl vc, .slice ra rl rc] 41)).cell? ⟨wr.heap.size, 1, none⟩ = some (.int .u64 cl) := World.cell?_alloc_at _ 41 _ _ rfl
      have y2 : (wr.alloc (.cells #[.int .u64 vc0, .int .u64 cl, .int .u64 vb, .int .u64 vs, .int .u64 ses, .int .u64 seq, .int .u64 stp, .int .u8 op, .slice va vl vc, .slice ra rl rc] 41)).cell? ⟨wr.heap.size, 2, none⟩ = some (.int .u64 vb) := World.cell?_alloc_at _ 41 _ _ rfl
      have y3 : (wr.alloc (.cells #[.int .u64 vc0, .int .u64 cl, .int .u64 vb, .int .u64 vs, .int .u64 ses, .int .u64 seq, .int .u64 stp, .int .u8 op, .slice va vl vc, .slice ra rl rc] 41)).cell? ⟨wr.heap.size, 3, none⟩ = some (.int .u64 vs) := World.cell?_alloc_at _ 41 _ _ rfl
      have y4 : (wr.alloc (.cells #[.int .u64 vc0, .int .u64 cl, .int .u64 vb, .int .u64 vs, .int .u64 ses, .int .u64 seq, .int .u64 stp, .int .u8 op, .slice va vl vc, .slice ra rl rc] 41)).cell? ⟨wr.heap.size, 4, none⟩ = some (.int .u64 ses) := World.cell?_alloc_at _ 41 _ _ rfl
      have y5 : (wr.alloc (.cells #[.int .u64 vc0, .int .u64 cl, .int .u64 vb, .int .u64 vs, .int .u64 ses, .int .u64 seq, .int .u64 stp, .int .u8 op, .slice va vl vc, .slice ra rl rc] 41)).cell? ⟨wr.heap.size, 5, none⟩ = some (.int .u64 seq) := World.cell?_alloc_at _ 41 _ _ rfl
      have y6 : (wr.alloc (.cells #[.int .u64 vc0, .int .u64 cl, .int .u64 vb, .int .u64 vs, .int .u64 ses, .int .u64 seq, .int .u64 stp, .int .u8 op, .slice va vl vc, .slice ra rl rc] 41)).cell? ⟨wr.heap.size, 6, none⟩ = some (.int .u64 stp) := World.cell?_alloc_at _ 41 _ _ rfl
      have y7 : (wr.alloc (.cells #[.int .u64 vc0, .int .u64 cl, .int .u64 vb, .int .u64 vs, .int .u64 ses, .int .u64 seq, .int .u64 stp, .int .u8 op, .slice va vl vc, .slice ra rl rc] 41)).cell? ⟨wr.heap.size, 7, none⟩ = some (.int .u8 op) := World.cell?_alloc_at _ 41 _ _ rfl
      have y8 : (wr.alloc (.cells #[.int .u64 vc0, .int .u64 cl, .int .u64 vb, .int .u64 vs, .int .u64 ses, .int .u64 seq, .int .u64 stp, .int .u8 op, .slice va vl vc, .slice ra rl rc] 41)).cell? ⟨wr.heap.size, 8, none⟩ = some (.slice va vl vc) := World.cell?_alloc_at _ 41 _ _ rfl
      have y9 : (wr.alloc (.cells #[.int .u64 vc0, .int .u64 cl, .int .u64 vb, .int .u64 vs, .int .u64 ses, .int .u64 seq, .int .u64 stp, .int .u8 op, .slice va vl vc, .slice ra rl rc] 41)).cell? ⟨wr.heap.size, 9, none⟩ = some (.slice ra rl rc) := World.cell?_alloc_at _ 41 _ _ rfl
      obtain ⟨c0, t0⟩ : ∃ v, (wr.alloc (.cells #[.int .u64 vc0, .int .u64 cl, .int .u64 vb, .int .u64 vs, .int .u64 ses, .int .u64 seq, .int .u64 stp, .int .u8 op, .slice va vl vc, .slice ra rl rc] 41)).cell? ⟨w.heap.size, k * 10, none⟩ = some v := by
        have := (HI.out.wri (k * 10) (by omega)).1
        rw [Nat.zero_add] at this
        obtain ⟨v, hv⟩ := Option.isSome_iff_exists.1 this
        exact ⟨v, (World.cell?_alloc_lt _ _ _ HI.out.lt).trans hv⟩
      have f0 : (wr.alloc (.cells #[.int .u64 vc0, .int .u64 cl, .int .u64 vb, .int .u64 vs, .int .u64 ses, .int .u64 seq, .int .u64 stp, .int .u8 op, .slice va vl vc, .slice ra rl rc] 41)).frozen? ⟨w.heap.size, k * 10, none⟩ = false := by
        have := (HI.out.wri (k * 10) (by omega)).2
        rw [Nat.zero_add] at this
        exact (World.frozen?_alloc_past _ _ _ HI.out.lt).trans this
      obtain ⟨c1, t1⟩ : ∃ v, (wr.alloc (.cells #[.int .u64 vc0, .int .u64 cl, .int .u64 vb, .int .u64 vs, .int .u64 ses, .int .u64 seq, .int .u64 stp, .int .u8 op, .slice va vl vc, .slice ra rl rc] 41)).cell? ⟨w.heap.size, k * 10 + 1, none⟩ = some v := by
        have := (HI.out.wri (k * 10 + 1) (by omega)).1
        rw [Nat.zero_add] at this
        obtain ⟨v, hv⟩ := Option.isSome_iff_exists.1 this
        exact ⟨v, (World.cell?_alloc_lt _ _ _ HI.out.lt).trans hv⟩
      have f1 : (wr.alloc (.cells #[.int .u64 vc0, .int .u64 cl, .int .u64 vb, .int .u64 vs, .int .u64 ses, .int .u64 seq, .int .u64 stp, .int .u8 op, .slice va vl vc, .slice ra rl rc] 41)).frozen? ⟨w.heap.size, k * 10 + 1, none⟩ = false := by
        have := (HI.out.wri (k * 10 + 1) (by omega)).2
        rw [Nat.zero_add] at this
        exact (World.frozen?_alloc_past _ _ _ HI.out.lt).trans this
      obtain ⟨c2, t2⟩ : ∃ v, (wr.alloc (.cells #[.int .u64 vc0, .int .u64 cl, .int .u64 vb, .int .u64 vs, .int .u64 ses, .int .u64 seq, .int .u64 stp, .int .u8 op, .slice va vl vc, .slice ra rl rc] 41)).cell? ⟨w.heap.size, k * 10 + 2, none⟩ = some v := by
        have := (HI.out.wri (k * 10 + 2) (by omega)).1
        rw [Nat.zero_add] at this
        obtain ⟨v, hv⟩ := Option.isSome_iff_exists.1 this
        exact ⟨v, (World.cell?_alloc_lt _ _ _ HI.out.lt).trans hv⟩
      have f2 : (wr.alloc (.cells #[.int .u64 vc0, .int .u64 cl, .int .u64 vb, .int .u64 vs, .int .u64 ses, .int .u64 seq, .int .u64 stp, .int .u8 op, .slice va vl vc, .slice ra rl rc] 41)).frozen? ⟨w.heap.size, k * 10 + 2, none⟩ = false := by
        have := (HI.out.wri (k * 10 + 2) (by omega)).2
        rw [Nat.zero_add] at this
        exact (World.frozen?_alloc_past _ _ _ HI.out.lt).trans this
      obtain ⟨c3, t3⟩ : ∃ v, (wr.alloc (.cells #[.int .u64 vc0, .int .u64 cl, .int .u64 vb, .int .u64 vs, .int .u64 ses, .int .u64 seq, .int .u64 stp, .int .u8 op, .slice va vl vc, .slice ra rl rc] 41)).cell? ⟨w.heap.size, k * 10 + 3, none⟩ = some v := by
        have := (HI.out.wri (k * 10 + 3) (by omega)).1
        rw [Nat.zero_add] at this
        obtain ⟨v, hv⟩ := Option.isSome_iff_exists.1 this
        exact ⟨v, (World.cell?_alloc_lt _ _ _ HI.out.lt).trans hv⟩
      have f3 : (wr.alloc (.cells #[.int .u64 vc0, .int .u64 cl, .int .u64 vb, .int .u64 vs, .int .u64 ses, .int .u64 seq, .int .u64 stp, .int .u8 op, .slice va vl vc, .slice ra rl rc] 41)).frozen? ⟨w.heap.size, k * 10 + 3, none⟩ = false := by
        have := (HI.out.wri (k * 10 + 3) (by omega)).2
        rw [Nat.zero_add] at this
        exact (World.frozen?_alloc_past _ _ _ HI.out.lt).trans this
      obtain ⟨c4, t4⟩ : ∃ v, (wr.alloc (.cells #[.int .u64 vc0, .int .u64 cl, .int .u64 vb, .int .u64 vs, .int .u64 ses, .int .u64 seq, .int .u64 stp, .int .u8 op, .slice va vl vc, .slice ra rl rc] 41)).cell? ⟨w.heap.size, k * 10 + 4, none⟩ = some v := by
        have := (HI.out.wri (k * 10 + 4) (by omega)).1
        rw [Nat.zero_add] at this
        obtain ⟨v, hv⟩ := Option.isSome_iff_exists.1 this
        exact ⟨v, (World.cell?_alloc_lt _ _ _ HI.out.lt).trans hv⟩
      have f4 : (wr.alloc (.cells #[.int .u64 vc0, .int .u64 cl, .int .u64 vb, .int .u64 vs, .int .u64 ses, .int .u64 seq, .int .u64 stp, .int .u8 op, .slice va vl vc, .slice ra rl rc] 41)).frozen? ⟨w.heap.size, k * 10 + 4, none⟩ = false := by
        have := (HI.out.wri (k * 10 + 4) (by omega)).2
        rw [Nat.zero_add] at this
        exact (World.frozen?_alloc_past _ _ _ HI.out.lt).trans this
      obtain ⟨c5, t5⟩ : ∃ v, (wr.alloc (.cells #[.int .u64 vc0, .int .u64 cl, .int .u64 vb, .int .u64 vs, .int .u64 ses, .int .u64 seq, .int .u64 stp, .int .u8 op, .slice va vl vc, .slice ra rl rc] 41)).cell? ⟨w.heap.size, k * 10 + 5, none⟩ = some v := by
        have := (HI.out.wri (k * 10 + 5) (by omega)).1
        rw [Nat.zero_add] at this
        obtain ⟨v, hv⟩ := Option.isSome_iff_exists.1 this
        exact ⟨v, (World.cell?_alloc_lt _ _ _ HI.out.lt).trans hv⟩
      have f5 : (wr.alloc (.cells #[.int .u64 vc0, .int .u64 cl, .int .u64 vb, .int .u64 vs, .int .u64 ses, .int .u64 seq, .int .u64 stp, .int .u8 op, .slice va vl vc, .slice ra rl rc] 41)).frozen? ⟨w.heap.size, k * 10 + 5, none⟩ = false := by
        have := (HI.out.wri (k * 10 + 5) (by omega)).2
        rw [Nat.zero_add] at this
        exact (World.frozen?_alloc_past _ _ _ HI.out.lt).trans this
      obtain ⟨c6, t6⟩ : ∃ v, (wr.alloc (.cells #[.int .u64 vc0, .int .u64 cl, .int .u64 vb, .int .u64 vs, .int .u64 ses, .int .u64 seq, .int .u64 stp, .int .u8 op, .slice va vl vc, .slice ra rl rc] 41)).cell? ⟨w.heap.size, k * 10 + 6, none⟩ = some v := by
        have := (HI.out.wri (k * 10 + 6) (by omega)).1
        rw [Nat.zero_add] at this
        obtain ⟨v, hv⟩ := Option.isSome_iff_exists.1 this
        exact ⟨v, (World.cell?_alloc_lt _ _ _ HI.out.lt).trans hv⟩
      have f6 : (wr.alloc (.cells #[.int .u64 vc0, .int .u64 cl, .int .u64 vb, .int .u64 vs, .int .u64 ses, .int .u64 seq, .int .u64 stp, .int .u8 op, .slice va vl vc, .slice ra rl rc] 41)).frozen? ⟨w.heap.size, k * 10 + 6, none⟩ = false := by
        have := (HI.out.wri (k * 10 + 6) (by omega)).2
        rw [Nat.zero_add] at this
        exact (World.frozen?_alloc_past _ _ _ HI.out.lt).trans this
      obtain ⟨c7, t7⟩ : ∃ v, (wr.alloc (.cells #[.int .u64 vc0, .int .u64 cl, .int .u64 vb, .int .u64 vs, .int .u64 ses, .int .u64 seq, .int .u64 stp, .int .u8 op, .slice va vl vc, .slice ra rl rc] 41)).cell? ⟨w.heap.size, k * 10 + 7, none⟩ = some v := by
        have := (HI.out.wri (k * 10 + 7) (by omega)).1
        rw [Nat.zero_add] at this
        obtain ⟨v, hv⟩ := Option.isSome_iff_exists.1 this
        exact ⟨v, (World.cell?_alloc_lt _ _ _ HI.out.lt).trans hv⟩
      have f7 : (wr.alloc (.cells #[.int .u64 vc0, .int .u64 cl, .int .u64 vb, .int .u64 vs, .int .u64 ses, .int .u64 seq, .int .u64 stp, .int .u8 op, .slice va vl vc, .slice ra rl rc] 41)).frozen? ⟨w.heap.size, k * 10 + 7, none⟩ = false := by
        have := (HI.out.wri (k * 10 + 7) (by omega)).2
        rw [Nat.zero_add] at this
        exact (World.frozen?_alloc_past _ _ _ HI.out.lt).trans this
      obtain ⟨c8, t8⟩ : ∃ v, (wr.alloc (.cells #[.int .u64 vc0, .int .u64 cl, .int .u64 vb, .int .u64 vs, .int .u64 ses, .int .u64 seq, .int .u64 stp, .int .u8 op, .slice va vl vc, .slice ra rl rc] 41)).cell? ⟨w.heap.size, k * 10 + 8, none⟩ = some v := by
        have := (HI.out.wri (k * 10 + 8) (by omega)).1
        rw [Nat.zero_add] at this
        obtain ⟨v, hv⟩ := Option.isSome_iff_exists.1 this
        exact ⟨v, (World.cell?_alloc_lt _ _ _ HI.out.lt).trans hv⟩
      have f8 : (wr.alloc (.cells #[.int .u64 vc0, .int .u64 cl, .int .u64 vb, .int .u64 vs, .int .u64 ses, .int .u64 seq, .int .u64 stp, .int .u8 op, .slice va vl vc, .slice ra rl rc] 41)).frozen? ⟨w.heap.size, k * 10 + 8, none⟩ = false := by
        have := (HI.out.wri (k * 10 + 8) (by omega)).2
        rw [Nat.zero_add] at this
        exact (World.frozen?_alloc_past _ _ _ HI.out.lt).trans this
      obtain ⟨c9, t9⟩ : ∃ v, (wr.alloc (.cells #[.int .u64 vc0, .int .u64 cl, .int .u64 vb, .int .u64 vs, .int .u64 ses, .int .u64 seq, .int .u64 stp, .int .u8 op, .slice va vl vc, .slice ra rl rc] 41)).cell? ⟨w.heap.size, k * 10 + 9, none⟩ = some v := by
        have := (HI.out.wri (k * 10 + 9) (by omega)).1
        rw [Nat.zero_add] at this
        obtain ⟨v, hv⟩ := Option.isSome_iff_exists.1 this
        exact ⟨v, (World.cell?_alloc_lt _ _ _ HI.out.lt).trans hv⟩
      have f9 : (wr.alloc (.cells #[.int .u64 vc0, .int .u64 cl, .int .u64 vb, .int .u64 vs, .int .u64 ses, .int .u64 seq, .int .u64 stp, .int .u8 op, .slice va vl vc, .slice ra rl rc] 41)).frozen? ⟨w.heap.size, k * 10 + 9, none⟩ = false := by
        have := (HI.out.wri (k * 10 + 9) (by omega)).2
        rw [Nat.zero_add] at this
        exact (World.frozen?_alloc_past _ _ _ HI.out.lt).trans this
      have hgm : w.heap.size < wr.heap.size := HI.out.lt
      have hgm1 : wr.heap.size < (wr.alloc (.cells #[.int .u64 vc0, .int .u64 cl, .int .u64 vb, .int .u64 vs, .int .u64 ses, .int .u64 seq, .int .u64 stp, .int .u8 op, .slice va vl vc, .slice ra rl rc] 41)).heap.size := by simp
      have hgm2 : w.heap.size < (wr.alloc (.cells #[.int .u64 vc0, .int .u64 cl, .int .u64 vb, .int .u64 vs, .int .u64 ses, .int .u64 seq, .int .u64 stp, .int .u8 op, .slice va vl vc, .slice ra rl rc] 41)).heap.size := by omega
      generalize wr.alloc (.cells #[.int .u64 vc0, .int .u64 cl, .int .u64 vb, .int .u64 vs, .int .u64 ses, .int .u64 seq, .int .u64 stp, .int .u8 op, .slice va vl vc, .slice ra rl rc] 41) = wm at *
      have HW := hidIt (fun w => wv_b vc0 cl vb vs w)
      have hne1 : ¬ wr.heap.size = w.heap.size := by omega
      have hne2 : ¬ w.heap.size = wr.heap.size := by omega
      go_region_held3 (fun wz => wz.cell? ⟨wr.heap.size, 0, none⟩ = some (.int .u64 vc0) ∧ wz.cell? ⟨wr.heap.size, 1, none⟩ = some (.int .u64 cl) ∧ wz.cell? ⟨wr.heap.size, 2, none⟩ = some (.int .u64 vb) ∧ wz.cell? ⟨wr.heap.size, 3, none⟩ = some (.int .u64 vs) ∧ wz.cell? ⟨wr.heap.size, 4, none⟩ = some (.int .u64 ses) ∧ wz.cell? ⟨wr.heap.size, 5, none⟩ = some (.int .u64 seq) ∧ wz.cell? ⟨wr.heap.size, 6, none⟩ = some (.int .u64 stp) ∧ wz.cell? ⟨wr.heap.size, 7, none⟩ = some (.int .u8 op) ∧ wz.cell? ⟨wr.heap.size, 8, none⟩ = some (.slice va vl vc) ∧ wz.cell? ⟨wr.heap.size, 9, none⟩ = some (.slice ra rl rc)) (go_keep)
        (first | (go_at_call 22; refine (HW.out _).mono ?_; rintro e w1 ⟨rfl, hb1⟩; have k1 : ∀ i, w1.cell? ⟨wr.heap.size, i, none⟩ = wm.cell? ⟨wr.heap.size, i, none⟩ := fun i => World.cell?_of_block (hb1.block _ hgm1); have k2 : ∀ i, w1.cell? ⟨w.heap.size, i, none⟩ = wm.cell? ⟨w.heap.size, i, none⟩ := fun i => World.cell?_of_block (hb1.block _ hgm2); have k3 : ∀ i, w1.frozen? ⟨w.heap.size, i, none⟩ = wm.frozen? ⟨w.heap.size, i, none⟩ := fun i => frozen_block (hb1.block _ hgm2); have HB1 := hidIt hb1; clear hb1))
      all_goals
        go_wp2_with fail
        go_roundw
        case rel => exact ⟨k + 1, by omega, by go_num, hidIt (((HI.out.on HBm.out).on ⟨HB1.out.os, HB1.out.tape, HB1.out.output, HB1.out.size, HB1.out.block⟩).set10 hlt HXk.out)⟩
        case measure => simp [intOf]; omega
    · obtain ⟨r0, r1, r2, r3, _⟩ := hHr
      obtain rfl : n = k := by omega
      have HW := hidIt (fun w => wv_any s0 s1 s2 s3 w)
      go_wp2_with fail
      refine (HW.out _).mono ?_
      rintro e w1 ⟨rfl, rfl⟩
      clear HW
      go_wp2
      go_ret
      exact wire_end HI.out.bel (fun h => ⟨_, rfl, Nat.le_refl _, HI.out.got⟩) _ _ _

end Go.Proofs.Qxb6617334a
