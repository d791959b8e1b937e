/-
  The script law: what holds of the world at the heads of its loops, and what each step does to it. No walk.
-/
import Derived.Test.Qxb6617284aKeep
import Derived.Test.Qxb6617284aClone
import Derived.Test.Qxb6617284aFits
import Derived.Test.Qxb6617284aPlain
namespace Go.Proofs.Qxb6617284a
set_option linter.unusedVariables false
open Go.RowKit Go.Deep Go.Maps

/-! ### zzB1Clone64, nil or not -/
def CloneQ (w : World) (nilv : Bool) (xs : List Int) (e : Ending) (w' : World) : Prop :=
  ∃ (a : Option Addr) (c : Nat), e = .returned (.slice a xs.length c) ∧ Own w' (.slice a xs.length c) xs ∧ Below w.heap.size w w' ∧ (∀ g, (Value.slice a xs.length c).ownBlock = some g → w.heap.size ≤ g) ∧ a.isNone = nilv

theorem clone_any {w : World} {a : Option Addr} {n c : Nat} {xs : List Int} (h : Rd w (.slice a n c) xs) (hm : xs.length * 8 ≤ 140737488355328) : Calls Try.prog 7 #[.slice a n c] w (CloneQ w a.isNone xs) := by
  cases a with
  | none =>
    have hx : xs = [] := by
      refine Classical.byContradiction (fun h0 => ?_)
      obtain ⟨a1, c1, he, _, _, r⟩ := h
      obtain ⟨b, o, hb, _⟩ := r h0
      simp only [Value.slice.injEq] at he
      rw [← he.1] at hb
      cases hb
    subst hx
    refine (clone_nil n c w).mono ?_
    rintro e w' ⟨rfl, rfl⟩
    exact ⟨none, 0, rfl, World.ownsRow_nil _ _ _ _, Below.refl _ _, fun g hg => by simp [Value.ownBlock] at hg, rfl⟩
  | some a =>
    refine (clone_some h (by omega)).mono ?_
    rintro e w' ⟨rfl, rfl⟩
    exact ⟨_, _, rfl, own_alloc w xs (by omega), (Below.refl _ _).alloc (Nat.le_refl _) _, fun g hg => by simp [Value.ownBlock] at hg; omega, rfl⟩

/-! ### readings carried on -/
theorem Rd.later {w w' : World} {v : Value} {xs : List Int} (h : Rd w v xs) (hb : Below w.heap.size w w') : Rd w' v xs := by
  obtain ⟨a, c, rfl, l1, m1, r⟩ := h
  refine ⟨a, c, rfl, l1, m1, fun h0 => ?_⟩
  obtain ⟨b, o, ha, hc⟩ := r h0
  exact ⟨b, o, ha, fun j hj => cell_later hb (hc j hj)⟩

theorem Own.setCell {w : World} {v : Value} {xs : List Int} (h : Own w v xs) {a : Addr} (u : Value) (hne : ∀ g, v.ownBlock = some g → g ≠ a.block) : Own (w.setCell a u) v xs :=
  h.kept (fun g hg => Below.heap_setCell _ _ _ _ (hne g hg))

theorem Own.later {w w' : World} {v : Value} {xs : List Int} (h : Own w v xs) (hb : Below w.heap.size w w') : Own w' v xs :=
  h.kept (fun g hg => hb.block g (h.lt hg))

theorem rd_shape {w : World} {v : Value} {xs : List Int} (h : Rd w v xs) : ∃ a c, v = .slice a xs.length c := by
  obtain ⟨a, c, rfl, _⟩ := h
  exact ⟨a, c, rfl⟩

/-! ### loop 1 -/
structure Inv1 (w : World) (N : Nat) (LL : Nat → List Int) (k : Nat) (wr : World) : Prop where
  below : Below w.heap.size w wr
  size : w.heap.size + 2 ≤ wr.heap.size
  vecs : ∃ gs ms : Nat → Value, (∀ i, i < N → wr.cell? ⟨w.heap.size, i, none⟩ = some (gs i) ∧ wr.frozen? ⟨w.heap.size, i, none⟩ = false) ∧
    (∀ i, i < N → wr.cell? ⟨w.heap.size + 1, i, none⟩ = some (ms i) ∧ wr.frozen? ⟨w.heap.size + 1, i, none⟩ = false) ∧
    ∀ i, i < k → (Own wr (gs i) (LL i) ∧ ∀ g, (gs i).ownBlock = some g → w.heap.size + 2 ≤ g) ∧ (Own wr (ms i) (LL i) ∧ ∀ g, (ms i).ownBlock = some g → w.heap.size + 2 ≤ g)

theorem cell_made {w : World} {N i : Nat} {z : Value} {t : TypeId} (h : i < N) : (w.alloc (.cells (madeCells #[z] N) t)).cell? ⟨w.heap.size, i, none⟩ = some z ∧ (w.alloc (.cells (madeCells #[z] N) t)).frozen? ⟨w.heap.size, i, none⟩ = false := by
  refine ⟨?_, World.frozen?_alloc_at _ t _ i rfl⟩
  rw [cell_of_row (w.alloc (.cells (madeCells #[z] N) t)) w.heap.size i (madeCells #[z] N) t (0, 0) (heap_alloc_new w _)]
  simp [madeCells, h, Nat.mod_one]

theorem inv1_start (w : World) (N : Nat) (LL : Nat → List Int) : Inv1 w N LL 0 ((w.alloc (.cells (madeCells #[.slice none 0 0] N) 22)).alloc (.cells (madeCells #[.slice none 0 0] N) 22)) := by
  refine ⟨((Below.refl _ _).alloc (Nat.le_refl _) _).alloc (by simp) _, by simp, fun _ => .slice none 0 0, fun _ => .slice none 0 0, ?_, ?_, fun i hi => by omega⟩
  · intro i hi
    obtain ⟨h1, h2⟩ := cell_made (w := w) (t := 22) (z := .slice none 0 0) hi
    have hlt : w.heap.size < (w.alloc (.cells (madeCells #[.slice none 0 0] N) 22)).heap.size := by simp
    exact ⟨(World.cell?_alloc_lt _ _ _ hlt).trans h1, (World.frozen?_alloc_past _ _ _ hlt).trans h2⟩
  · intro i hi
    have := cell_made (w := w.alloc (.cells (madeCells #[.slice none 0 0] N) 22)) (t := 22) (z := .slice none 0 0) hi
    simpa using this

/-- One round: a clone into the one vector, a clone into the other. -/
theorem inv1_step {w : World} {N : Nat} {LL : Nat → List Int} {k : Nat} {wr w1 w2 : World} {v1 v2 : Value} (h : Inv1 w N LL k wr) (hk : k < N)
    (b1 : Below wr.heap.size wr w1) (o1 : Own w1 v1 (LL k)) (n1 : ∀ g, v1.ownBlock = some g → wr.heap.size ≤ g)
    (b2 : Below w1.heap.size (w1.setCell ⟨w.heap.size, k, none⟩ v1) w2) (o2 : Own w2 v2 (LL k)) (n2 : ∀ g, v2.ownBlock = some g → w1.heap.size ≤ g) :
    Inv1 w N LL (k + 1) (w2.setCell ⟨w.heap.size + 1, k, none⟩ v2) := by
  obtain ⟨hb, hs, gs, ms, hg, hm, ho⟩ := h
  have s1 := b1.size
  have s2 := b2.size
  simp only [World.size_setCell] at s2
  -- what lies below the first clone's world
  have old : ∀ g, g < wr.heap.size → g ≠ w.heap.size → g ≠ w.heap.size + 1 → (w2.setCell ⟨w.heap.size + 1, k, none⟩ v2).heap[g]? = wr.heap[g]? := by
    intro g h1 h2 h3
    rw [Below.heap_setCell _ _ _ _ h3, b2.block g (by omega), Below.heap_setCell _ _ _ _ h2, b1.block g h1]
  have c0 : ∀ i, i < N → w1.cell? ⟨w.heap.size, i, none⟩ = some (gs i) ∧ w1.frozen? ⟨w.heap.size, i, none⟩ = false := fun i hi => by
    obtain ⟨q1, q2⟩ := hg i hi
    exact ⟨(b1.cell (p := ⟨w.heap.size, i, none⟩) (by show w.heap.size < _; omega)).trans q1, (b1.frozen (p := ⟨w.heap.size, i, none⟩) (by show w.heap.size < _; omega)).trans q2⟩
  have c1 : ∀ i, i < N → w1.cell? ⟨w.heap.size + 1, i, none⟩ = some (ms i) ∧ w1.frozen? ⟨w.heap.size + 1, i, none⟩ = false := fun i hi => by
    obtain ⟨q1, q2⟩ := hm i hi
    exact ⟨(b1.cell (p := ⟨w.heap.size + 1, i, none⟩) (by show w.heap.size + 1 < _; omega)).trans q1, (b1.frozen (p := ⟨w.heap.size + 1, i, none⟩) (by show w.heap.size + 1 < _; omega)).trans q2⟩
  refine ⟨?_, by simp; omega, fun i => if i = k then v1 else gs i, fun i => if i = k then v2 else ms i, ?_, ?_, ?_⟩
  · refine ⟨b2.os.trans (b1.os.trans hb.os), b2.tape.trans (b1.tape.trans hb.tape), b2.output.trans (b1.output.trans hb.output), by simp; have := hb.size; omega, fun g hlt => ?_⟩
    have := hb.size
    rw [old g (by omega) (by omega) (by omega), hb.block g hlt]
  · intro i hi
    dsimp only
    have e1 : (w2.setCell ⟨w.heap.size + 1, k, none⟩ v2).cell? ⟨w.heap.size, i, none⟩ = (w1.setCell ⟨w.heap.size, k, none⟩ v1).cell? ⟨w.heap.size, i, none⟩ := by
      rw [World.cell?_of_block (w := w2) (w' := w2.setCell ⟨w.heap.size + 1, k, none⟩ v2) (a := ⟨w.heap.size, i, none⟩) (Below.heap_setCell _ _ _ _ (by show w.heap.size ≠ w.heap.size + 1; omega))]
      exact b2.cell (p := ⟨w.heap.size, i, none⟩) (by show w.heap.size < _; omega)
    refine ⟨?_, ?_⟩
    · rw [e1]
      by_cases e : i = k
      · subst e
        rw [if_pos rfl]
        exact World.cell?_setCell_same _ _ _ (c0 i hi).1
      · rw [if_neg e, World.cell?_setCell_other _ _ _ _ (by intro h; simp only [Addr.mk.injEq] at h; omega)]
        exact (c0 i hi).1
    · rw [World.frozen?_setCell, b2.frozen (p := ⟨w.heap.size, i, none⟩) (by show w.heap.size < _; omega), World.frozen?_setCell]
      exact (c0 i hi).2
  · intro i hi
    dsimp only
    have e0 : w2.cell? ⟨w.heap.size + 1, i, none⟩ = some (ms i) := by
      rw [b2.cell (p := ⟨w.heap.size + 1, i, none⟩) (by show w.heap.size + 1 < _; omega), World.cell?_setCell_other _ _ _ _ (by simp)]
      exact (c1 i hi).1
    refine ⟨?_, ?_⟩
    · by_cases e : i = k
      · subst e
        rw [if_pos rfl]
        exact World.cell?_setCell_same _ _ _ e0
      · rw [if_neg e, World.cell?_setCell_other _ _ _ _ (by intro h; simp only [Addr.mk.injEq] at h; omega)]
        exact e0
    · rw [World.frozen?_setCell, b2.frozen (p := ⟨w.heap.size + 1, i, none⟩) (by show w.heap.size + 1 < _; omega), World.frozen?_setCell]
      exact (c1 i hi).2
  · intro i hi
    dsimp only
    by_cases e : i = k
    · subst e
      rw [if_pos rfl, if_pos rfl]
      refine ⟨⟨?_, fun g hg => by have := n1 g hg; omega⟩, ⟨?_, fun g hg => by have := n2 g hg; omega⟩⟩
      · refine o1.kept (fun g hg => ?_)
        have q1 := n1 g hg
        have q2 := o1.lt hg
        rw [Below.heap_setCell _ _ _ _ (by show g ≠ w.heap.size + 1; omega), b2.block g q2, Below.heap_setCell _ _ _ _ (by show g ≠ w.heap.size; omega)]
      · exact o2.setCell _ (fun g hg => by have := n2 g hg; show g ≠ w.heap.size + 1; omega)
    · rw [if_neg e, if_neg e]
      obtain ⟨⟨q1, q2⟩, q3, q4⟩ := ho i (by omega)
      refine ⟨⟨q1.kept (fun g hg => ?_), q2⟩, ⟨q3.kept (fun g hg => ?_), q4⟩⟩
      · have := q2 g hg; exact old g (q1.lt hg) (by omega) (by omega)
      · have := q4 g hg; exact old g (q3.lt hg) (by omega) (by omega)

end Go.Proofs.Qxb6617284a
