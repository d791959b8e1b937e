/-
  sameStep (14), at a step and its copy.
-/
import Derived.Test.Qxb6617334aVer
import Derived.Deep.RegionWith
import Derived.Deep.Cut
import Derived.Deep.CutRange
namespace Go.Proofs.Qxb6617334a
set_option linter.unusedVariables false
open Go.RowKit Go.Deep

theorem Rdb.on {w w' : World} {a : Option Addr} {n : Nat} (h : Rdb w a n) (hb : Below w.heap.size w w') : Rdb w' a n := by
  refine ⟨h.1, fun h0 => ?_⟩
  obtain ⟨b, o, e, hc⟩ := h.2 h0
  refine ⟨b, o, e, fun j hj => ?_⟩
  obtain ⟨x, hx⟩ := hc j hj
  exact ⟨x, (World.cell?_of_block (w := w) (w' := w') (a := ⟨b, o + j, none⟩) (hb.block b (World.block_lt_of_cell? _ _ hx))).trans hx⟩

theorem same_b {w : World} {a : Option Addr} {n : Nat} (h : Rdb w a n) (c : Nat) : Calls Try.prog 23 #[.slice a n c, .slice a n c] w fun e w' => e = .returned (.bool true) ∧ Below w.heap.size w w' := by
  refine (same_any h).mono ?_
  rintro e w' ⟨rfl, m, rfl⟩
  exact ⟨rfl, below_drew _ _⟩

theorem wv_b (c cl b s : Int) (w : World) : Calls Try.prog 22 #[.agg #[.int .u64 c, .int .u64 cl, .int .u64 b, .int .u64 s]] w fun e w' => e = .returned (.agg #[.int .u64 c, .int .u64 cl, .int .u64 b, .int .u64 s]) ∧ Below w.heap.size w w' := by
  refine (wv_any c cl b s w).mono ?_
  rintro e w' ⟨rfl, rfl⟩
  refine ⟨rfl, ⟨rfl, rfl, rfl, by simp; omega, fun k hk => ?_⟩⟩
  rw [Below.heap_alloc _ _ _ (by simp; omega), Below.heap_alloc _ _ _ (by simp; omega), Below.heap_alloc _ _ _ hk]

/-- The two boxes of the arguments stand. -/
structure Two (w : World) (x : St) (wx : World) : Prop where
  bel : Below w.heap.size w wx
  one : At wx w.heap.size 0 x
  two : At wx (w.heap.size + 1) 0 x

theorem alloc5_size (w : World) (A B C D E : Obj) : w.heap.size ≤ (((((w.alloc A).alloc B).alloc C).alloc D).alloc E).heap.size := by simp; omega
theorem alloc5_old (w : World) (A B C D E : Obj) : ∀ k, k < w.heap.size → (((((w.alloc A).alloc B).alloc C).alloc D).alloc E).heap[k]? = w.heap[k]? := fun k hk => by
  rw [Below.heap_alloc _ _ _ (by simp; omega), Below.heap_alloc _ _ _ (by simp; omega), Below.heap_alloc _ _ _ (by simp; omega), Below.heap_alloc _ _ _ (by simp; omega), Below.heap_alloc _ _ _ hk]
theorem alloc5_0 (w : World) (A B C D E : Obj) : (((((w.alloc A).alloc B).alloc C).alloc D).alloc E).heap[w.heap.size]? = some A := by
  rw [Below.heap_alloc _ _ _ (by simp; omega), Below.heap_alloc _ _ _ (by simp; omega), Below.heap_alloc _ _ _ (by simp; omega), Below.heap_alloc _ _ _ (by simp)]
  exact heap_alloc_new w A
theorem alloc5_1 (w : World) (A B C D E : Obj) : (((((w.alloc A).alloc B).alloc C).alloc D).alloc E).heap[w.heap.size + 1]? = some B := by
  rw [Below.heap_alloc _ _ _ (by simp), Below.heap_alloc _ _ _ (by simp), Below.heap_alloc _ _ _ (by simp)]
  have := heap_alloc_new (w.alloc A) B
  rw [show (w.alloc A).heap.size = w.heap.size + 1 by simp] at this
  exact this

theorem two_of {w wx : World} (x : St) (hb : Below w.heap.size w wx)
    (h1 : wx.heap[w.heap.size]? = some (.cells #[.int .u64 x.c, .int .u64 x.cl, .int .u64 x.b, .int .u64 x.s, .int .u64 x.ses, .int .u64 x.seq, .int .u64 x.stp, .int .u8 x.op, .slice x.va x.vl x.vc, .slice x.ra x.rl x.rc] 54))
    (h2 : wx.heap[w.heap.size + 1]? = some (.cells #[.int .u64 x.c, .int .u64 x.cl, .int .u64 x.b, .int .u64 x.s, .int .u64 x.ses, .int .u64 x.seq, .int .u64 x.stp, .int .u8 x.op, .slice x.va x.vl x.vc, .slice x.ra x.rl x.rc] 41)) : Two w x wx := by
  refine ⟨hb, ?_, ?_⟩
  · constructor <;> simp [World.cell?, h1]
  · constructor <;> simp [World.cell?, h2]

set_option maxRecDepth 100000 in
set_option maxHeartbeats 3200000 in
theorem step_same {w : World} (x : St) (h1 : Rdb w x.va x.vl) (h2 : Rdb w x.ra x.rl) :
    Calls Try.prog 14 #[.agg #[.int .u64 x.c, .int .u64 x.cl, .int .u64 x.b, .int .u64 x.s, .int .u64 x.ses, .int .u64 x.seq, .int .u64 x.stp, .int .u8 x.op, .slice x.va x.vl x.vc, .slice x.ra x.rl x.rc],
      .agg #[.int .u64 x.c, .int .u64 x.cl, .int .u64 x.b, .int .u64 x.s, .int .u64 x.ses, .int .u64 x.seq, .int .u64 x.stp, .int .u8 x.op, .slice x.va x.vl x.vc, .slice x.ra x.rl x.rc]] w fun e w' => e = .returned (.bool true) ∧ Below w.heap.size w w' := by
  obtain ⟨c, cl, b, s, ses, seq, stp, op, va, vl, vc, ra, rl, rc⟩ := x
  simp only at h1 h2 ⊢
  have H1 := hidIt h1
  have H2 := hidIt h2
  clear h1 h2
  have HW := hidIt (fun w => wv_any c cl b s w)
  go_enter Try.func14, Try.ntmps14
  go_upto_region 1 with fail
  go_cut [10] from 5 to 10 (fun s10 wx => s10 = .bool false ∧ Hid (Two w ⟨c, cl, b, s, ses, seq, stp, op, va, vl, vc, ra, rl, rc⟩ wx))
  case first =>
    go_region_with (go_at_call 22; refine (HW.out _).mono ?_; rintro e w1 ⟨rfl, rfl⟩)
    all_goals
      go_wp2_with fail
      go_meet
      exact ⟨rfl, hidIt (two_of _ ⟨rfl, rfl, rfl, alloc5_size w _ _ _ _ _, alloc5_old w _ _ _ _ _⟩ (alloc5_0 w _ _ _ _ _) (alloc5_1 w _ _ _ _ _))⟩
  case rest =>
    obtain ⟨rfl, HT⟩ := hcut
    clear HW
    obtain ⟨hb, ⟨x0, x1, x2, x3, x4, x5, x6, x7, x8, x9⟩, ⟨y0, y1, y2, y3, y4, y5, y6, y7, y8, y9⟩⟩ := HT.out
    simp only [Nat.zero_add] at x0 x1 x2 x3 x4 x5 x6 x7 x8 x9 y0 y1 y2 y3 y4 y5 y6 y7 y8 y9
    have HB := hidIt hb
    have HR1 := hidIt (H1.out.on hb)
    have HR2 := hidIt (H2.out.on hb)
    clear hb HT
    go_wp2_with fail
    refine (same_b HR1.out _).mono ?_
    rintro e w2 ⟨rfl, hb2⟩
    have k2 : ∀ g i v, wc.cell? ⟨g, i, none⟩ = some v → w2.cell? ⟨g, i, none⟩ = some v := fun g i v hv => (World.cell?_of_block (w := wc) (w' := w2) (a := ⟨g, i, none⟩) (hb2.block g (World.block_lt_of_cell? _ _ hv))).trans hv
    have z9 := k2 _ _ _ x9
    have t9 := k2 _ _ _ y9
    have HB2 := hidIt (HB.out.trans (hb2.mono HB.out.size))
    have HR3 := hidIt (HR2.out.on hb2)
    clear k2 hb2 HB HR1 HR2 x0 x1 x2 x3 x4 x5 x6 x7 x8 x9 y0 y1 y2 y3 y4 y5 y6 y7 y8 y9
    go_wp2_with fail
    refine (same_b HR3.out _).mono ?_
    rintro e w3 ⟨rfl, hb3⟩
    have HB3 := hidIt (HB2.out.trans (hb3.mono HB2.out.size))
    clear hb3 HB2 HR3
    go_wp2
    go_ret
    exact ⟨rfl, HB3.out⟩

end Go.Proofs.Qxb6617334a
