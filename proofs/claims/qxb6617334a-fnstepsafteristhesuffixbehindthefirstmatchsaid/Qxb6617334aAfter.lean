/-
  After (13).
-/
import Derived.Test.Qxb6617334aEq
import Derived.Deep.RegionWith
import Derived.Deep.Cut
import Derived.Deep.CutRange
namespace Go.Proofs.Qxb6617334a
set_option linter.unusedVariables false
open Go.RowKit Go.Deep

set_option maxHeartbeats 400000 in
theorem after_nil (h0 h1 h2 h3 : Int) (w : World) : Calls Try.prog 13 #[.pointer none, .agg #[.int .u64 h0, .int .u64 h1, .int .u64 h2, .int .u64 h3]] w fun e w' => e = .returned (.tuple #[.pointer none, .bool false]) ∧ Below w.heap.size w w' := by
  go_enter Try.func13, Try.ntmps13
  go_wp2
  go_ret2
  exact ⟨rfl, ⟨rfl, rfl, rfl, by simp, fun k hk => Below.heap_alloc _ _ _ hk⟩⟩

set_option maxHeartbeats 800000 in
theorem after_since {w : World} {p : Nat} {s0 s1 s2 s3 : Int} {a : Option Addr} {n c : Nat} (h : Head w p 0 s0 s1 s2 s3 a n c) :
    Calls Try.prog 13 #[.pointer (some ⟨p, 0, none⟩), .agg #[.int .u64 s0, .int .u64 s1, .int .u64 s2, .int .u64 s3]] w fun e w' => e = .returned (.tuple #[.pointer (some ⟨p, 0, none⟩), .bool true]) ∧ Below w.heap.size w w' := by
  have hp : p < w.heap.size := World.block_lt_of_cell? _ _ h.h0
  have k2 : ∀ i v o', w.cell? ⟨p, i, none⟩ = some v → (w.alloc o').cell? ⟨p, i, none⟩ = some v := fun i v o' hv => (World.cell?_alloc_lt _ _ _ hp).trans hv
  have e0 := fun o' => k2 _ _ o' h.h0
  have e1 := fun o' => k2 _ _ o' h.h1
  have e2 := fun o' => k2 _ _ o' h.h2
  have e3 := fun o' => k2 _ _ o' h.h3
  simp only [Nat.zero_add] at e1 e2 e3
  have q := eq24 s0 s1 s2 s3 s0 s1 s2 s3
  rw [ev_self] at q
  clear h k2
  go_enter Try.func13, Try.ntmps13
  go_wp2
  go_quiet (fail)
  go_wp2
  go_ret2
  exact ⟨rfl, ⟨rfl, rfl, rfl, by simp, fun k hk => Below.heap_alloc _ _ _ hk⟩⟩

/-- What stands while After looks: the box of held. -/
structure AInv (w : World) (h0 h1 h2 h3 : Int) (wr : World) : Prop where
  bel : Below w.heap.size w wr
  b0 : wr.cell? ⟨w.heap.size, 0, none⟩ = some (.int .u64 h0)
  b1 : wr.cell? ⟨w.heap.size, 1, none⟩ = some (.int .u64 h1)
  b2 : wr.cell? ⟨w.heap.size, 2, none⟩ = some (.int .u64 h2)
  b3 : wr.cell? ⟨w.heap.size, 3, none⟩ = some (.int .u64 h3)

theorem AInv.start (w : World) (h0 h1 h2 h3 : Int) : AInv w h0 h1 h2 h3 (w.alloc (.cells #[.int .u64 h0, .int .u64 h1, .int .u64 h2, .int .u64 h3] 24)) := by
  refine ⟨⟨rfl, rfl, rfl, by simp, fun k hk => Below.heap_alloc _ _ _ hk⟩, ?_, ?_, ?_, ?_⟩
  all_goals
    rw [World.cell?_alloc_at _ 24 _ _ rfl]
    rfl
theorem AInv.lt {w : World} {h0 h1 h2 h3 : Int} {wr : World} (h : AInv w h0 h1 h2 h3 wr) : w.heap.size < wr.heap.size := World.block_lt_of_cell? _ _ h.b0
theorem AInv.on {w : World} {h0 h1 h2 h3 : Int} {wr wx : World} (h : AInv w h0 h1 h2 h3 wr) (hb : Below wr.heap.size wr wx) : AInv w h0 h1 h2 h3 wx := by
  have k : ∀ i v, wr.cell? ⟨w.heap.size, i, none⟩ = some v → wx.cell? ⟨w.heap.size, i, none⟩ = some v := fun i v hv => (World.cell?_of_block (w := wr) (w' := wx) (a := ⟨w.heap.size, i, none⟩) (hb.block _ h.lt)).trans hv
  exact ⟨h.bel.trans (hb.mono h.bel.size), k _ _ h.b0, k _ _ h.b1, k _ _ h.b2, k _ _ h.b3⟩
theorem below_alloc (w : World) (o : Obj) : Below w.heap.size w (w.alloc o) := ⟨rfl, rfl, rfl, by simp, fun k hk => Below.heap_alloc _ _ _ hk⟩

/-- How After ends where held is not Since. -/
def AfterQ (w : World) (h0 h1 h2 h3 : Int) (G n : Nat) (X : Nat → St) (e : Ending) (w' : World) : Prop :=
  Below w.heap.size w w' ∧
  ((e = .returned (.tuple #[.pointer none, .bool false]) ∧ ∀ j, j < n → ev (X j).c (X j).cl (X j).b (X j).s h0 h1 h2 h3 = false) ∨
   ∃ k g A, k < n ∧ e = .returned (.tuple #[.pointer (some ⟨g, 0, none⟩), .bool true]) ∧ ev (X k).c (X k).cl (X k).b (X k).s h0 h1 h2 h3 = true ∧ (∀ j, j < k → ev (X j).c (X j).cl (X j).b (X j).s h0 h1 h2 h3 = false) ∧
     Head w' g 0 h0 h1 h2 h3 A (n - (k + 1)) (n - (k + 1)) ∧ w.heap.size ≤ g ∧ (0 < n - (k + 1) → A = some ⟨G, (k + 1) * 10, none⟩))

theorem after_found {w wr : World} {h0 h1 h2 h3 : Int} {G n k m : Nat} {A : Option Addr} {X : Nat → St} {o1 : Obj} (HI : AInv w h0 h1 h2 h3 wr) (hk : k < n) (hev : ev (X k).c (X k).cl (X k).b (X k).s h0 h1 h2 h3 = true) (hE : ∀ j, j < k → ev (X j).c (X j).cl (X j).b (X j).s h0 h1 h2 h3 = false)
    (hm : m = n - (k + 1)) (hA : 0 < m → A = some ⟨G, (k + 1) * 10, none⟩) (w' : World) (q1 : w'.os = wr.os) (q2 : w'.tape = wr.tape) (q3 : w'.output = wr.output)
    (hh : w'.heap = ((wr.alloc o1).alloc (.cells #[.int .u64 h0, .int .u64 h1, .int .u64 h2, .int .u64 h3, .slice A m m] 44)).heap) :
    AfterQ w h0 h1 h2 h3 G n X (.returned (.tuple #[.pointer (some ⟨wr.heap.size + 1, 0, none⟩), .bool true])) w' := by
  subst hm
  have hz : (wr.alloc o1).heap.size = wr.heap.size + 1 := by simp
  have hg : w'.heap[wr.heap.size + 1]? = some (.cells #[.int .u64 h0, .int .u64 h1, .int .u64 h2, .int .u64 h3, .slice A (n - (k + 1)) (n - (k + 1))] 44) := by
    rw [hh, ← hz]
    exact heap_alloc_new _ _
  have hb : Below wr.heap.size wr w' := by
    refine ⟨q1, q2, q3, by rw [hh]; simp; omega, fun j hj => ?_⟩
    rw [hh, Below.heap_alloc _ _ _ (by omega), Below.heap_alloc _ _ _ hj]
  refine ⟨HI.bel.trans (hb.mono HI.bel.size), .inr ⟨k, wr.heap.size + 1, A, hk, rfl, hev, hE, ?_, by have := HI.bel.size; omega, hA⟩⟩
  constructor <;> simp [World.cell?, hg]

set_option maxRecDepth 100000 in
set_option maxHeartbeats 3200000 in
theorem after_some {w : World} {p G n : Nat} {s0 s1 s2 s3 h0 h1 h2 h3 : Int} {X : Nat → St} (h : Head w p 0 s0 s1 s2 s3 (some ⟨G, 0, none⟩) n n) (hX : Steps w G 0 n X) (hn : n ≤ 16384) (hne : ev h0 h1 h2 h3 s0 s1 s2 s3 = false) :
    Calls Try.prog 13 #[.pointer (some ⟨p, 0, none⟩), .agg #[.int .u64 h0, .int .u64 h1, .int .u64 h2, .int .u64 h3]] w (AfterQ w h0 h1 h2 h3 G n X) := by
  have hp : p < w.heap.size := World.block_lt_of_cell? _ _ h.h0
  have k2 : ∀ i v o', w.cell? ⟨p, i, none⟩ = some v → (w.alloc o').cell? ⟨p, i, none⟩ = some v := fun i v o' hv => (World.cell?_alloc_lt _ _ _ hp).trans hv
  have e0 := fun o' => k2 _ _ o' h.h0
  have e1 := fun o' => k2 _ _ o' h.h1
  have e2 := fun o' => k2 _ _ o' h.h2
  have e3 := fun o' => k2 _ _ o' h.h3
  have e4 := fun o' => k2 _ _ o' h.h4
  simp only [Nat.zero_add] at e1 e2 e3 e4
  have q := eq24 h0 h1 h2 h3 s0 s1 s2 s3
  rw [hne] at q
  have HI0 := hidIt (AInv.start w h0 h1 h2 h3)
  have HH := hidIt h
  have HX := hidIt hX
  clear h k2 hX
  go_enter Try.func13, Try.ntmps13
  go_wp2
  go_quiet (fail)
  go_wp2
  clear e0 e1 e2 e3 e4 q
  go_loopw [22] (fun i wr => ∃ k : Nat, k ≤ n ∧ i = .int .i64 k ∧ Hid (AInv w h0 h1 h2 h3 wr) ∧ Hid (∀ j, j < k → ev (X j).c (X j).cl (X j).b (X j).s h0 h1 h2 h3 = false)) (fun i _ => n - (intOf i).toNat)
  case atStart => exact ⟨0, Nat.zero_le _, rfl, HI0.out.on (below_drew _ _), fun j hj => by omega⟩
  case round =>
    obtain ⟨k, hk, rfl, HI, HE⟩ := hrel
    clear HI0
    by_cases hlt : k < n
    · have hXr := HX.out.kept (HI.out.bel.block G (World.block_lt_of_cell? _ _ (HX.out k hlt).c0))
      obtain ⟨x0, x1, x2, x3, x4, x5, x6, x7, x8, x9⟩ := hXr k hlt
      have b0 := HI.out.b0
      have b1 := HI.out.b1
      have b2 := HI.out.b2
      have b3 := HI.out.b3
      have hlw := HI.out.lt
      have k3 : ∀ i v o', wr.cell? ⟨w.heap.size, i, none⟩ = some v → (wr.alloc o').cell? ⟨w.heap.size, i, none⟩ = some v := fun i v o' hv => (World.cell?_alloc_lt _ _ _ hlw).trans hv
      have d0 := fun o' => k3 _ _ o' b0
      have d1 := fun o' => k3 _ _ o' b1
      have d2 := fun o' => k3 _ _ o' b2
      have d3 := fun o' => k3 _ _ o' b3
      have HEk : Hid (∀ r, ev (X k).c (X k).cl (X k).b (X k).s h0 h1 h2 h3 = r → r = ev (X k).c (X k).cl (X k).b (X k).s h0 h1 h2 h3) := fun r hr => hr.symm
      obtain ⟨x, hx⟩ : ∃ x, x = X k := ⟨_, rfl⟩
      rw [← hx] at x0 x1 x2 x3 x4 x5 x6 x7 x8 x9
      have HXk := hidIt hx
      clear hXr k3 b0 b1 b2 b3 HEk hx
      obtain ⟨c, cl, b, s, ses, seq, stp, op, va, vl, vc, ra, rl, rc⟩ := x
      simp only [Nat.zero_add] at x0 x1 x2 x3 x4 x5 x6 x7 x8 x9
      have q := eq24 c cl b s h0 h1 h2 h3
      by_cases hev : ev c cl b s h0 h1 h2 h3 = true
      · rw [hev] at q
        have m4 : ∀ o', (wr.alloc o').cell? ⟨p, 4, none⟩ = some (.slice (some ⟨G, 0, none⟩) n n) := fun o' => by
          have h4 := HH.out.h4
          rw [Nat.zero_add] at h4
          have hpr : p < wr.heap.size := by omega
          exact (World.cell?_alloc_lt _ _ _ hpr).trans ((World.cell?_of_block (w := w) (w' := wr) (a := ⟨p, 4, none⟩) (HI.out.bel.block p hp)).trans h4)
        have HEk : Hid (ev (X k).c (X k).cl (X k).b (X k).s h0 h1 h2 h3 = true) := hidIt (by rw [← HXk.out]; exact hev)
        go_wp2
        go_region
        all_goals go_wp2_with fail
        all_goals
          go_ret2
          exact after_found HI.out (by omega) HEk.out HE.out (by omega) (fun hpos => by first | rfl | omega) _ rfl rfl rfl rfl
      · have hev' : ev c cl b s h0 h1 h2 h3 = false := by simpa using hev
        rw [hev'] at q
        have HEk : Hid (∀ j, j < k + 1 → ev (X j).c (X j).cl (X j).b (X j).s h0 h1 h2 h3 = false) := by
          refine hidIt (fun j hj => ?_)
          by_cases hjk : j = k
          · subst hjk; rw [← HXk.out]; exact hev'
          · exact HE.out j (by omega)
        go_wp2
        go_roundw
        case rel => exact ⟨k + 1, by omega, by go_num, HI.out.on (below_alloc _ _), HEk.out⟩
        case measure => simp [intOf]; omega
    · obtain rfl : n = k := by omega
      go_wp2
      go_ret2
      exact ⟨HI.out.bel, .inl ⟨rfl, HE.out⟩⟩

end Go.Proofs.Qxb6617334a
