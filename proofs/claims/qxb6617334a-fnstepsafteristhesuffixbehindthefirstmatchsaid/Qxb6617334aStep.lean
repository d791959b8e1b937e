/-
  One step stored into the row that toWireSteps makes.
-/
import Derived.Test.Qxb6617334aBase
namespace Go.Proofs.Qxb6617334a
set_option linter.unusedVariables false
open Go.RowKit Go.Deep

def St.cells (x : St) : List Value := [.int .u64 x.c, .int .u64 x.cl, .int .u64 x.b, .int .u64 x.s, .int .u64 x.ses, .int .u64 x.seq, .int .u64 x.stp, .int .u8 x.op, .slice x.va x.vl x.vc, .slice x.ra x.rl x.rc]

theorem At.of_range {w : World} {b o : Nat} {x : St} (h : w.rangeAt b o x.cells) : At w b o x :=
  ⟨h 0 _ rfl, h 1 _ rfl, h 2 _ rfl, h 3 _ rfl, h 4 _ rfl, h 5 _ rfl, h 6 _ rfl, h 7 _ rfl, h 8 _ rfl, h 9 _ rfl⟩
theorem At.range {w : World} {b o : Nat} {x : St} (h : At w b o x) : w.rangeAt b o x.cells := by
  intro j v hv
  match j, hv with
  | 0, hv => simp [St.cells] at hv; subst hv; exact h.c0
  | 1, hv => simp [St.cells] at hv; subst hv; exact h.c1
  | 2, hv => simp [St.cells] at hv; subst hv; exact h.c2
  | 3, hv => simp [St.cells] at hv; subst hv; exact h.c3
  | 4, hv => simp [St.cells] at hv; subst hv; exact h.c4
  | 5, hv => simp [St.cells] at hv; subst hv; exact h.c5
  | 6, hv => simp [St.cells] at hv; subst hv; exact h.c6
  | 7, hv => simp [St.cells] at hv; subst hv; exact h.c7
  | 8, hv => simp [St.cells] at hv; subst hv; exact h.c8
  | 9, hv => simp [St.cells] at hv; subst hv; exact h.c9
  | n + 10, hv => simp [St.cells] at hv

theorem setCells_facts (g : Nat) : ∀ (vs : List Value) (o : Nat) (w : World), (w.setCells g o vs).os = w.os ∧ (w.setCells g o vs).tape = w.tape ∧ (w.setCells g o vs).output = w.output ∧ (w.setCells g o vs).heap.size = w.heap.size ∧ ∀ k, k ≠ g → (w.setCells g o vs).heap[k]? = w.heap[k]?
  | [], o, w => ⟨rfl, rfl, rfl, rfl, fun _ _ => rfl⟩
  | v :: vs, o, w => by
    obtain ⟨h1, h2, h3, h4, h5⟩ := setCells_facts g vs (o + 1) (w.setCell ⟨g, o, none⟩ v)
    exact ⟨h1, h2, h3, h4.trans (by simp), fun k hk => (h5 k hk).trans (Below.heap_setCell _ _ _ _ hk)⟩

/-- What the copying loop has made after k rounds, in block w.heap.size. -/
structure WInv (w : World) (n : Nat) (X : Nat → St) (k : Nat) (wr : World) : Prop where
  bel : Below w.heap.size w wr
  lt : w.heap.size < wr.heap.size
  wri : wr.there w.heap.size 0 (n * 10)
  got : Steps wr w.heap.size 0 k X

theorem WInv.on {w : World} {n : Nat} {X : Nat → St} {k : Nat} {wr wx : World} (h : WInv w n X k wr) (hb : Below wr.heap.size wr wx) : WInv w n X k wx := by
  have hh := hb.block _ h.lt
  refine ⟨h.bel.trans (hb.mono h.bel.size), Nat.lt_of_lt_of_le h.lt hb.size, fun j hj => ?_, h.got.kept hh⟩
  obtain ⟨h1, h2⟩ := h.wri j hj
  exact ⟨by rw [World.cell?_of_block (w := wr) (w' := wx) (a := ⟨w.heap.size, 0 + j, none⟩) hh]; exact h1, by rw [World.frozen?_of_block (w := wr) (w' := wx) (a := ⟨w.heap.size, 0 + j, none⟩) hh]; exact h2⟩

theorem WInv.set {w : World} {n : Nat} {X : Nat → St} {k : Nat} {wx : World} (h : WInv w n X k wx) (hk : k < n) {x : St} (hx : x = X k) : WInv w n X (k + 1) (wx.setCells w.heap.size (k * 10) x.cells) := by
  subst hx
  obtain ⟨f1, f2, f3, f4, f5⟩ := setCells_facts w.heap.size (X k).cells (k * 10) wx
  have hth : wx.there w.heap.size (k * 10) (X k).cells.length := fun j hj => by
    have hj' : j < 10 := hj
    have := h.wri (k * 10 + j) (by omega)
    rwa [Nat.zero_add] at this
  refine ⟨⟨f1.trans h.bel.os, f2.trans h.bel.tape, f3.trans h.bel.output, by rw [f4]; exact h.bel.size, fun g hg => (f5 g (by omega)).trans (h.bel.block g hg)⟩, by rw [f4]; exact h.lt, World.there_setCells h.wri _ _ _, fun j hj => ?_⟩
  by_cases hjk : j = k
  · subst hjk
    rw [Nat.zero_add]
    exact At.of_range (World.rangeAt_setCells_same _ _ _ _ hth)
  · exact At.of_range (World.rangeAt_setCells_apart (h.got j (by omega)).range _ _ _ (.inr (.inl (by show 0 + j * 10 + 10 ≤ k * 10; omega))))

/-- .. in the walk's form. -/
theorem WInv.set10 {w : World} {n : Nat} {X : Nat → St} {k : Nat} {wx : World} (h : WInv w n X k wx) (hk : k < n) {c cl b s ses seq stp op : Int} {va : Option Addr} {vl vc : Nat} {ra : Option Addr} {rl rc : Nat} (hx : (⟨c, cl, b, s, ses, seq, stp, op, va, vl, vc, ra, rl, rc⟩ : St) = X k) :
    WInv w n X (k + 1) ((((((((((wx.setCell ⟨w.heap.size, k * 10, none⟩ (.int .u64 c)).setCell ⟨w.heap.size, k * 10 + 1, none⟩ (.int .u64 cl)).setCell ⟨w.heap.size, k * 10 + 2, none⟩ (.int .u64 b)).setCell ⟨w.heap.size, k * 10 + 3, none⟩ (.int .u64 s)).setCell ⟨w.heap.size, k * 10 + 4, none⟩ (.int .u64 ses)).setCell ⟨w.heap.size, k * 10 + 5, none⟩ (.int .u64 seq)).setCell ⟨w.heap.size, k * 10 + 6, none⟩ (.int .u64 stp)).setCell ⟨w.heap.size, k * 10 + 7, none⟩ (.int .u8 op)).setCell ⟨w.heap.size, k * 10 + 8, none⟩ (.slice va vl vc)).setCell ⟨w.heap.size, k * 10 + 9, none⟩ (.slice ra rl rc)) := by
  have := h.set hk hx
  simpa only [St.cells, World.setCells, Nat.add_assoc, Nat.reduceAdd] using this

end Go.Proofs.Qxb6617334a
