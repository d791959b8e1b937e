/-
  The script law, loop 2 (the keeps) and what is left behind it. No walk.
-/
import Derived.Test.Qxb6617284aInv
namespace Go.Proofs.Qxb6617284a
set_option linter.unusedVariables false
open Go.RowKit Go.Deep Go.Maps

/-- What lies in memory from behind the first loop on, and is never written again. -/
structure Stat (wr : World) (kb ko Gb Mb N : Nat) (K : Nat → Int) (LL : Nat → List Int) : Prop where
  keys : ∀ i, i < N → wr.cell? ⟨kb, ko + i, none⟩ = some (.int .i64 (K i))
  given : ∀ i, i < N → ∃ v, wr.cell? ⟨Gb, i, none⟩ = some v ∧ Rd wr v (LL i)
  model : ∀ i, i < N → ∃ v, wr.cell? ⟨Mb, i, none⟩ = some v ∧ Rd wr v (LL i)

theorem Stat.later {wr wr' : World} {kb ko Gb Mb N : Nat} {K : Nat → Int} {LL : Nat → List Int} (h : Stat wr kb ko Gb Mb N K LL) (hb : Below wr.heap.size wr wr') : Stat wr' kb ko Gb Mb N K LL :=
  ⟨fun i hi => cell_later hb (h.keys i hi), fun i hi => let ⟨v, h1, h2⟩ := h.given i hi; ⟨v, cell_later hb h1, h2.later hb⟩, fun i hi => let ⟨v, h1, h2⟩ := h.model i hi; ⟨v, cell_later hb h1, h2.later hb⟩⟩

theorem inv1_stat {w wr : World} {N kb ko : Nat} {K : Nat → Int} {LL : Nat → List Int} (h : Inv1 w N LL N wr) (hk : ∀ i, i < N → w.cell? ⟨kb, ko + i, none⟩ = some (.int .i64 (K i))) : Stat wr kb ko w.heap.size (w.heap.size + 1) N K LL := by
  obtain ⟨hb, hs, gs, ms, hg, hm, ho⟩ := h
  exact ⟨fun i hi => cell_later hb (hk i hi), fun i hi => ⟨gs i, (hg i hi).1, (ho i hi).1.1.rd⟩, fun i hi => ⟨ms i, (hm i hi).1, (ho i hi).2.1.rd⟩⟩

/-- An answer of keep that is safe: its row's first cells are its list, and whoever grows that row leaves them alone. -/
def Safe (wr : World) (B : Nat) (F : Int → Option (Value × List Int)) (v : Value) (ys : List Int) : Prop :=
  ∃ g c cur, v = .slice (some ⟨g, 0, none⟩) ys.length c ∧ ys.length ≤ c ∧ c ≤ 9223372036854775807 ∧ B ≤ g ∧ wr.heap[g]? = some (.cells cur 2 (0, 0)) ∧ cur.toList.take ys.length = ys.map (Value.int .i64) ∧
    ∀ k v' xs', F k = some (v', xs') → v'.ownBlock = some g → ys.length ≤ xs'.length

theorem Safe.rd {wr : World} {B : Nat} {F : Int → Option (Value × List Int)} {v : Value} {ys : List Int} (h : Safe wr B F v ys) : Rd wr v ys := by
  obtain ⟨g, c, cur, rfl, h1, h2, _, h4, h5, _⟩ := h
  refine ⟨_, c, rfl, h1, h2, fun _ => ⟨g, 0, rfl, fun j hj => ?_⟩⟩
  rw [cell_of_row wr g (0 + j) cur 2 (0, 0) h4]
  have := congrArg (fun l => l[j]?) h5
  simp only [List.getElem?_take, if_pos hj, List.getElem?_map, List.getElem?_eq_getElem hj] at this
  rw [Nat.zero_add, List.getElem?_eq_getElem hj]
  simpa using this

theorem Safe.kept {wr w' : World} {B : Nat} {F F' : Int → Option (Value × List Int)} {v : Value} {ys : List Int} (h : Safe wr B F v ys) (hb : ∀ g, B ≤ g → g < wr.heap.size → w'.heap[g]? = wr.heap[g]?) (hF : ∀ k v' xs' g, g < wr.heap.size → F' k = some (v', xs') → v'.ownBlock = some g → ∃ xs0, F k = some (v', xs0) ∧ xs0.length ≤ xs'.length) : Safe w' B F' v ys := by
  obtain ⟨g, c, cur, rfl, h1, h2, h3, h4, h5, h6⟩ := h
  have hlt : g < wr.heap.size := (Array.getElem?_eq_some_iff.1 h4).1
  refine ⟨g, c, cur, rfl, h1, h2, h3, (hb g h3 hlt).trans h4, h5, fun k v' xs' hk hg => ?_⟩
  obtain ⟨xs0, q1, q2⟩ := hF k v' xs' g hlt hk hg
  have := h6 k v' xs0 q1 hg
  omega

/-- What holds at the head of the second loop's round i. w1: the world behind the first loop; from block B = w1.heap.size on: the map, the readLists, the answers' vector, then the keeps' own rows. -/
structure Inv2 (w1 : World) (N : Nat) (K : Nat → Int) (LL : Nat → List Int) (i : Nat) (wr : World) : Prop where
  below : Below w1.heap.size w1 wr
  size : w1.heap.size + 3 ≤ wr.heap.size
  got : ∀ j, j < N → ∃ v, wr.cell? ⟨w1.heap.size + 2, j, none⟩ = some v ∧ wr.frozen? ⟨w1.heap.size + 2, j, none⟩ = false
  state : ∃ F, LSt wr (w1.heap.size + 1) w1.heap.size (.slice none 0 0) F (cnt K LL i) ∧ (∀ k, (F k).map Prod.snd = st K LL i k) ∧ (∀ k v xs, F k = some (v, xs) → ∀ g, v.ownBlock = some g → w1.heap.size + 3 ≤ g) ∧
    ∀ j, j < i → ∃ v, wr.cell? ⟨w1.heap.size + 2, j, none⟩ = some v ∧ Safe wr (w1.heap.size + 3) F v (LL j)

theorem inv2_start (w1 : World) (N : Nat) (K : Nat → Int) (LL : Nat → List Int) :
    Inv2 w1 N K LL 0 (((w1.alloc (.map #[] 0)).alloc (.cells #[.map (some w1.heap.size), .slice none 0 0] 40)).alloc (.cells (madeCells #[.slice none 0 0] N) 22)) := by
  have hs1 : (w1.alloc (.map #[] 0)).heap.size = w1.heap.size + 1 := by simp
  have hs2 : ((w1.alloc (.map #[] 0)).alloc (.cells #[.map (some w1.heap.size), .slice none 0 0] 40)).heap.size = w1.heap.size + 2 := by simp
  refine ⟨(((Below.refl _ _).alloc (Nat.le_refl _) _).alloc (by omega) _).alloc (by omega) _, by simp, ?_, fun _ => none, ?_, fun k => rfl, fun k v xs h => (by cases h), fun j hj => by omega⟩
  · intro j hj
    have := cell_made (w := (w1.alloc (.map #[] 0)).alloc (.cells #[.map (some w1.heap.size), .slice none 0 0] 40)) (t := 22) (z := .slice none 0 0) hj
    rw [hs2] at this
    exact ⟨_, this⟩
  · refine ⟨?_, ?_, fun k v xs h => (by cases h), fun k k' v v' xs xs' g h => (by cases h)⟩
    · rw [Below.heap_alloc _ _ _ (by omega), ← hs1]
      exact heap_alloc_new _ _
    · refine (mapIs_made w1).kept ?_
      rw [Below.heap_alloc _ _ _ (by omega), Below.heap_alloc _ _ _ (by omega)]

/-- From what a keep has done to the round's end. -/
theorem inv2_next {w1 : World} {N : Nat} {K : Nat → Int} {LL : Nat → List Int} {i : Nat} {wr w' : World} {rv : Value} {F F' : Int → Option (Value × List Int)} (hbel : Below w1.heap.size w1 w') (hsz : wr.heap.size ≤ w'.heap.size) (hsize : w1.heap.size + 3 ≤ wr.heap.size)
    (hgot : ∀ j, j < N → ∃ v, wr.cell? ⟨w1.heap.size + 2, j, none⟩ = some v ∧ wr.frozen? ⟨w1.heap.size + 2, j, none⟩ = false) (hgb : w'.heap[w1.heap.size + 2]? = wr.heap[w1.heap.size + 2]?) (hi : i < N)
    (hst : LSt w' (w1.heap.size + 1) w1.heap.size (.slice none 0 0) F' (cnt K LL (i + 1))) (hpl : ∀ k, (F' k).map Prod.snd = st K LL (i + 1) k) (hblk : ∀ k v xs, F' k = some (v, xs) → ∀ g, v.ownBlock = some g → w1.heap.size + 3 ≤ g)
    (hold : ∀ j, j < i → ∃ v, wr.cell? ⟨w1.heap.size + 2, j, none⟩ = some v ∧ Safe w' (w1.heap.size + 3) F' v (LL j)) (hnew : Safe w' (w1.heap.size + 3) F' rv (LL i)) :
    (∃ v, w'.cell? ⟨w1.heap.size + 2, i, none⟩ = some v) ∧ w'.frozen? ⟨w1.heap.size + 2, i, none⟩ = false ∧ Inv2 w1 N K LL (i + 1) (w'.setCell ⟨w1.heap.size + 2, i, none⟩ rv) := by
  have hgc : ∀ j, w'.cell? ⟨w1.heap.size + 2, j, none⟩ = wr.cell? ⟨w1.heap.size + 2, j, none⟩ := fun j => World.cell?_of_block (a := ⟨w1.heap.size + 2, j, none⟩) hgb
  have hgf : ∀ j, w'.frozen? ⟨w1.heap.size + 2, j, none⟩ = wr.frozen? ⟨w1.heap.size + 2, j, none⟩ := fun j => World.frozen?_of_block (a := ⟨w1.heap.size + 2, j, none⟩) hgb
  obtain ⟨v0, g1, g2⟩ := hgot i hi
  have hset : ∀ g, g ≠ w1.heap.size + 2 → (w'.setCell ⟨w1.heap.size + 2, i, none⟩ rv).heap[g]? = w'.heap[g]? := fun g hg => Below.heap_setCell _ _ _ _ hg
  have hsafe : ∀ v ys, Safe w' (w1.heap.size + 3) F' v ys → Safe (w'.setCell ⟨w1.heap.size + 2, i, none⟩ rv) (w1.heap.size + 3) F' v ys := fun v ys h =>
    h.kept (fun g h1 _ => hset g (by omega)) (fun k v' xs' g _ hk hg => ⟨xs', hk, Nat.le_refl _⟩)
  refine ⟨⟨v0, (hgc i).trans g1⟩, (hgf i).trans g2, hbel.setCell (by show w1.heap.size ≤ w1.heap.size + 2; omega) _, by simp; omega, ?_, F', ?_, hpl, hblk, ?_⟩
  · intro j hj
    obtain ⟨v, q1, q2⟩ := hgot j hj
    by_cases e : j = i
    · subst e
      exact ⟨rv, World.cell?_setCell_same _ _ _ ((hgc j).trans q1), by rw [World.frozen?_setCell, hgf]; exact q2⟩
    · refine ⟨v, ?_, by rw [World.frozen?_setCell, hgf]; exact q2⟩
      rw [World.cell?_setCell_other _ _ _ _ (by intro h; simp only [Addr.mk.injEq] at h; omega), hgc]
      exact q1
  · refine ⟨?_, hst.map.kept (hset _ (by omega)), fun k v xs h => (hst.own k v xs h).kept (fun g hg => hset g (by have := hblk k v xs h g hg; omega)), hst.apart⟩
    rw [hset _ (by omega)]
    exact hst.cells
  · intro j hj
    by_cases e : j = i
    · subst e
      exact ⟨rv, World.cell?_setCell_same _ _ _ ((hgc j).trans g1), hsafe _ _ hnew⟩
    · obtain ⟨v, q1, q2⟩ := hold j (by omega)
      refine ⟨v, ?_, hsafe _ _ q2⟩
      rw [World.cell?_setCell_other _ _ _ _ (by intro h; simp only [Addr.mk.injEq] at h; omega), hgc]
      exact q1

theorem entL_plain {F : Int → Option (Value × List Int)} {s : Int → Option (List Int)} (h : ∀ k, (F k).map Prod.snd = s k) (k : Int) : entL F k = (s k).getD [] := by
  unfold entL; rw [h k]

theorem own_cur {w : World} {g cap : Nat} {n : Nat} {xs : List Int} (h : Own w (.slice (some ⟨g, 0, none⟩) n cap) xs) : n = xs.length ∧ n ≤ cap ∧ cap ≤ 9223372036854775807 ∧ ∃ cur, w.heap[g]? = some (.cells cur 2 (0, 0)) ∧ cur.toList.take xs.length = xs.map (Value.int .i64) := by
  rcases h.2 with ⟨h1, _⟩ | ⟨g', cap', cur, he, _, hg, hnc, hcm, hcs, htake⟩
  · cases h1
  · simp only [Value.slice.injEq, Option.some.injEq, Addr.mk.injEq] at he
    obtain ⟨⟨rfl, _⟩, rfl, rfl⟩ := he
    exact ⟨rfl, hnc, by simpa [maxLen] using hcm, cur, hg, by simpa using htake⟩

/-- The round's call: its answer, and the state behind its store. -/
theorem round2 {w1 : World} {N : Nat} {K : Nat → Int} {LL : Nat → List Int} {i : Nat} {wr : World} (h : Inv2 w1 N K LL i wr) (hi : i < N) (hN : N ≤ 65536) (hk : (Lit.int .i64 (K i)).wf = true) (hlen : ∀ j, j < N → (LL j).length ≤ 131072) {lv : Value} (hrd : Rd wr lv (LL i)) (nq : Nat) :
    Calls Try.prog 10 #[.pointer (some ⟨w1.heap.size + 1, 0, none⟩), .int .i64 (K i), lv] (wr.drewN nq) fun e w' => ∃ g c, e = .returned (.slice (some ⟨g, 0, none⟩) (LL i).length c) ∧
      (∃ v, w'.cell? ⟨w1.heap.size + 2, i, none⟩ = some v) ∧ w'.frozen? ⟨w1.heap.size + 2, i, none⟩ = false ∧ Inv2 w1 N K LL (i + 1) (w'.setCell ⟨w1.heap.size + 2, i, none⟩ (.slice (some ⟨g, 0, none⟩) (LL i).length c)) := by
  obtain ⟨hbel, hsize, hgot, F, hst, hpl, hblk, hold⟩ := h
  have hc := cnt_le (K := K) (LL := LL) i
  have hst' : LSt (wr.drewN nq) (w1.heap.size + 1) w1.heap.size (.slice none 0 0) F (cnt K LL i) := ⟨hst.cells, hst.map, hst.own, hst.apart⟩
  refine (zzkeep_any hst' hk (by simp only [maxLen]; omega) (lv := lv) (ls := LL i) hrd (by have := hlen i hi; omega)).mono ?_
  have hent := entL_plain hpl (K i)
  intro e w' hq
  have e1 : ∀ k, LL i = [] → st K LL (i + 1) k = st K LL i k := fun k h0 => by rw [st, if_pos (.inl h0)]
  rcases hq with ⟨h0, rfl, rfl⟩ | ⟨h0, hag, g, cap, rfl, ho, hg1, hg2, hb⟩ | ⟨h0, hag, hle, ⟨g, cap, hv, rfl⟩, m, rfl⟩ | ⟨h0, hag, hlt, g, cap, rfl, hls, hb, hg2, hat, hfr⟩
  · -- nothing read: an empty answer of its own
    have hB : Below wr.heap.size wr ((wr.drewN nq).alloc (.cells #[] 2)) := ⟨rfl, rfl, rfl, by simp, fun k hk => Below.heap_alloc (wr.drewN nq) _ k hk⟩
    have e2 : cnt K LL (i + 1) = cnt K LL i := by rw [cnt, if_pos h0]
    refine ⟨wr.heap.size, 0, by rw [h0]; rfl, ?_⟩
    refine inv2_next (wr := wr) (F := F) (F' := F) ?_ hB.size hsize hgot (hB.block _ (by omega)) hi ?_ ?_ hblk ?_ ?_
    · exact hbel.trans (hB.mono (by have := hbel.size; omega))
    · rw [e2]; exact hst.kept (fun k hk => hB.block k hk)
    · intro k; rw [e1 k h0]; exact hpl k
    · intro j hj
      obtain ⟨v, q1, q2⟩ := hold j hj
      exact ⟨v, q1, q2.kept (fun g _ hg => hB.block g hg) (fun k v' xs' g _ hk hg => ⟨xs', hk, Nat.le_refl _⟩)⟩
    · rw [h0]
      refine ⟨wr.heap.size, 0, #[], rfl, Nat.le_refl _, by omega, by omega, heap_alloc_new (wr.drewN nq) _, rfl, fun k v' xs' hk hg => by simp⟩
  · -- it disagrees: a copy of its own
    have hB : Below wr.heap.size wr w' := ⟨hb.os, hb.tape, hb.output, hb.size, hb.block⟩
    have hg1' : wr.heap.size ≤ g := hg1
    have hsome : (st K LL i (K i)).isSome = true := by
      cases hs : st K LL i (K i) with
      | none => rw [hent, hs] at hag; simp [agr_nil_right] at hag
      | some x => rfl
    have e2 : cnt K LL (i + 1) = cnt K LL i := by rw [cnt, if_neg h0, if_pos hsome]
    have e3 : ∀ k, st K LL (i + 1) k = st K LL i k := by
      intro k
      rw [st]
      split
      · rfl
      · rename_i hc
        have hk' : k = K i := Classical.byContradiction (fun e => hc (.inr e))
        subst hk'
        rw [if_neg]
        rintro ⟨q, _⟩
        rw [← hent, hag] at q
        cases q
    obtain ⟨_, hc1, hc2, cur, hcur, htk⟩ := own_cur ho
    refine ⟨g, cap, rfl, ?_⟩
    refine inv2_next (wr := wr) (F := F) (F' := F) ?_ hB.size hsize hgot (hB.block _ (by omega)) hi ?_ ?_ hblk ?_ ?_
    · exact hbel.trans (hB.mono (by have := hbel.size; omega))
    · rw [e2]; exact hst.kept (fun k hk => hB.block k hk)
    · intro k; rw [e3]; exact hpl k
    · intro j hj
      obtain ⟨v, q1, q2⟩ := hold j hj
      exact ⟨v, q1, q2.kept (fun g _ hg => hB.block g hg) (fun k v' xs' g _ hk hg => ⟨xs', hk, Nat.le_refl _⟩)⟩
    · refine ⟨g, cap, cur, rfl, hc1, hc2, by omega, hcur, htk, fun k v' xs' hk hg => ?_⟩
      have := (hst.own k v' xs' hk).lt hg
      omega
  · -- it is a beginning of what is held
    have hFk : F (K i) = some (.slice (some ⟨g, 0, none⟩) (entL F (K i)).length cap, entL F (K i)) := by
      cases hF : F (K i) with
      | none => simp [entV, hF] at hv
      | some p =>
        have q1 : p.1 = .slice (some ⟨g, 0, none⟩) (entL F (K i)).length cap := by simpa [entV, hF] using hv
        have q2 : entL F (K i) = p.2 := by simp [entL, hF]
        rw [← q1, q2]
    have hsome : (st K LL i (K i)).isSome = true := by rw [← hpl, hFk]; rfl
    have e2 : cnt K LL (i + 1) = cnt K LL i := by rw [cnt, if_neg h0, if_pos hsome]
    have e3 : ∀ k, st K LL (i + 1) k = st K LL i k := by
      intro k
      rw [st]
      split
      · rfl
      · rename_i hc
        have hk' : k = K i := Classical.byContradiction (fun e => hc (.inr e))
        subst hk'
        rw [if_neg]
        rintro ⟨_, q⟩
        rw [← hent] at q
        omega
    obtain ⟨_, hc1, hc2, cur, hcur, htk⟩ := own_cur (hst.own _ _ _ hFk)
    have hgB := hblk _ _ _ hFk g rfl
    refine ⟨g, (LL i).length, rfl, ?_⟩
    refine inv2_next (wr := wr) (F := F) (F' := F) ?_ (Nat.le_refl _) hsize hgot rfl hi ?_ ?_ hblk ?_ ?_
    · exact ⟨hbel.os, hbel.tape, hbel.output, hbel.size, hbel.block⟩
    · rw [e2]; exact ⟨hst.cells, hst.map, hst.own, hst.apart⟩
    · intro k; rw [e3]; exact hpl k
    · intro j hj
      obtain ⟨v, q1, q2⟩ := hold j hj
      exact ⟨v, q1, q2⟩
    · refine ⟨g, (LL i).length, cur, rfl, Nat.le_refl _, by have := hlen i hi; omega, hgB, hcur, ?_, fun k v' xs' hk hg => ?_⟩
      · have h2 := congrArg (List.take (LL i).length) htk
        rw [List.take_take, Nat.min_eq_left hle] at h2
        rw [h2, ← List.map_take]
        rw [agr_short hle] at hag
        rw [← of_decide_eq_true hag]
      · have := hst.apart k (K i) v' _ xs' _ g hk hFk hg rfl
        subst this
        rw [hFk] at hk
        simp only [Option.some.injEq, Prod.mk.injEq] at hk
        rw [← hk.2]
        exact hle
  · -- it lengthens what is held
    have hsz : wr.heap.size ≤ w'.heap.size := hb.size
    have hat' : g = wr.heap.size ∨ (entV F (K i)).ownBlock = some g := hat
    have hfr' : ∀ k, k < wr.heap.size → k ≠ w1.heap.size → k ≠ g → w'.heap[k]? = wr.heap[k]? := hfr
    have hgB : w1.heap.size + 3 ≤ g := by
      rcases hat' with h | h
      · omega
      · cases hF : F (K i) with
        | none => simp [entV, hF, Value.ownBlock] at h
        | some p => simp [entV, hF] at h; exact hblk (K i) p.1 p.2 hF g h
    have hcnt : cnt K LL (i + 1) = if (F (K i)).isSome then cnt K LL i else cnt K LL i + 1 := by
      rw [cnt, if_neg h0, ← hpl]
      simp
    have hbel' : Below w1.heap.size w1 w' := ⟨hb.os.trans hbel.os, hb.tape.trans hbel.tape, hb.output.trans hbel.output, by have := hbel.size; omega, fun k hk => by rw [hfr' k (by have := hbel.size; omega) (by omega) (by omega), hbel.block k hk]⟩
    obtain ⟨_, hc1, hc2, cur, hcur, htk⟩ := own_cur (hls.own (K i) _ _ (upd_same _ _ _))
    refine ⟨g, (LL i).length, rfl, ?_⟩
    refine inv2_next (wr := wr) (F := F) (F' := upd F (K i) (.slice (some ⟨g, 0, none⟩) (LL i).length cap, LL i)) hbel' hsz hsize hgot (hfr' _ (by omega) (by omega) (by omega)) hi ?_ ?_ ?_ ?_ ?_
    · rw [hcnt]; exact hls
    · intro k
      rw [st]
      by_cases hkk : k = K i
      · subst hkk
        rw [upd_same, if_neg (by simp [h0]), if_pos ⟨by rw [← hent]; exact hag, by rw [← hent]; exact hlt⟩]
        rfl
      · rw [upd_other _ _ hkk, if_pos (.inr hkk)]
        exact hpl k
    · intro k v xs hF g' hg'
      by_cases hkk : k = K i
      · subst hkk
        rw [upd_same] at hF
        simp only [Option.some.injEq, Prod.mk.injEq] at hF
        obtain ⟨rfl, _⟩ := hF
        simp [Value.ownBlock] at hg'
        omega
      · rw [upd_other _ _ hkk] at hF
        exact hblk k v xs hF g' hg'
    · intro j hj
      obtain ⟨v, q1, gj, cj, curj, rfl, s1, s2, s3, s4, s5, s6⟩ := hold j hj
      refine ⟨_, q1, ?_⟩
      have hjlt : gj < wr.heap.size := (Array.getElem?_eq_some_iff.1 s4).1
      by_cases hgj : gj = g
      · -- the very row that has grown, in place
        subst hgj
        rcases hat' with h | h
        · omega
        · cases hF : F (K i) with
          | none => simp [entV, hF, Value.ownBlock] at h
          | some p =>
            simp [entV, hF] at h
            have hle2 := s6 (K i) p.1 p.2 hF h
            have hL : entL F (K i) = p.2 := by simp [entL, hF]
            refine ⟨gj, cj, cur, rfl, s1, s2, s3, hcur, ?_, fun k v' xs' hk hg => ?_⟩
            · -- both the old row and the new begin with it
              have ho := hst.own (K i) p.1 p.2 hF
              have hpf : p.1 = .slice (some ⟨gj, 0, none⟩) p.2.length (match p.1 with | .slice _ _ c => c | _ => 0) := by
                rcases ho.form with ⟨q, _⟩ | ⟨g2, cap2, q, _, _, q2⟩
                · rw [q] at h; simp [Value.ownBlock] at h
                · rw [h] at q2
                  simp only [Option.some.injEq] at q2
                  subst q2
                  rw [q]
              rw [hpf] at ho
              obtain ⟨_, _, _, cur0, hcur0, htk0⟩ := own_cur ho
              rw [hcur0] at s4
              simp only [Option.some.injEq, Obj.cells.injEq] at s4
              obtain ⟨rfl, _⟩ := s4
              rw [hL] at hlt hag
              rw [agr_long (by omega)] at hag
              have hpre := of_decide_eq_true hag
              have a1 := congrArg (List.take (LL j).length) htk
              rw [List.take_take, Nat.min_eq_left (by omega)] at a1
              have a2 := congrArg (List.take (LL j).length) htk0
              rw [List.take_take, Nat.min_eq_left hle2, s5] at a2
              rw [a1, a2, ← hpre, ← List.map_take, ← List.map_take, List.take_take, Nat.min_eq_left hle2]
            · by_cases hkk : k = K i
              · subst hkk
                rw [upd_same] at hk
                simp only [Option.some.injEq, Prod.mk.injEq] at hk
                rw [← hk.2]
                rw [hL] at hlt
                omega
              · rw [upd_other _ _ hkk] at hk
                exact s6 k v' xs' hk hg
      · refine ⟨gj, cj, curj, rfl, s1, s2, s3, by rw [hfr' gj hjlt (by omega) hgj]; exact s4, s5, fun k v' xs' hk hg => ?_⟩
        by_cases hkk : k = K i
        · subst hkk
          rw [upd_same] at hk
          simp only [Option.some.injEq, Prod.mk.injEq] at hk
          obtain ⟨rfl, _⟩ := hk
          simp [Value.ownBlock] at hg
          exact absurd hg.symm hgj
        · rw [upd_other _ _ hkk] at hk
          exact s6 k v' xs' hk hg
    · refine ⟨g, (LL i).length, cur, rfl, Nat.le_refl _, by have := hlen i hi; omega, hgB, hcur, htk, fun k v' xs' hk hg => ?_⟩
      have := hls.apart k (K i) v' _ xs' _ g hk (upd_same _ _ _) hg rfl
      subst this
      rw [upd_same] at hk
      simp only [Option.some.injEq, Prod.mk.injEq] at hk
      rw [← hk.2]
      exact Nat.le_refl _

end Go.Proofs.Qxb6617284a
