/-
  The script law behind the keeps: what is read from then on; the maps first, longest, broken, matched. No walk.
-/
import Derived.Test.Qxb6617284aInv2
namespace Go.Proofs.Qxb6617284a
set_option linter.unusedVariables false
open Go.RowKit Go.Deep Go.Maps

theorem zero3 (w : World) : (zeroValue 3).run Try.prog w = .ok (.int .i64 0) w := by kernel_rfl
theorem zero4 (w : World) : (zeroValue 4).run Try.prog w = .ok (.bool false) w := by kernel_rfl

/-- What lies in memory behind the keeps, and is never written again. -/
structure Fin2 (wr : World) (kb ko Mb Ob M N : Nat) (K : Nat → Int) (LL : Nat → List Int) : Prop where
  keys : ∀ i, i < N → wr.cell? ⟨kb, ko + i, none⟩ = some (.int .i64 (K i))
  model : ∀ i, i < N → ∃ a c, wr.cell? ⟨Mb, i, none⟩ = some (.slice a (LL i).length c) ∧ Rd wr (.slice a (LL i).length c) (LL i)
  got : ∀ i, i < N → ∃ g c, wr.cell? ⟨Ob, i, none⟩ = some (.slice (some ⟨g, 0, none⟩) (LL i).length c) ∧ Rd wr (.slice (some ⟨g, 0, none⟩) (LL i).length c) (LL i)
  map : ∃ f, MapIs wr M f (cnt K LL N) ∧ ∀ k, (f k).isSome = (st K LL N k).isSome ∧ Rd wr ((f k).getD (.slice none 0 0)) ((st K LL N k).getD [])

theorem Fin2.later {wr wr' : World} {kb ko Mb Ob M N : Nat} {K : Nat → Int} {LL : Nat → List Int} (h : Fin2 wr kb ko Mb Ob M N K LL) (hb : Below wr.heap.size wr wr') : Fin2 wr' kb ko Mb Ob M N K LL := by
  obtain ⟨h1, h2, h3, f, h4, h5⟩ := h
  exact ⟨fun i hi => cell_later hb (h1 i hi), fun i hi => let ⟨a, c, q1, q2⟩ := h2 i hi; ⟨a, c, cell_later hb q1, q2.later hb⟩, fun i hi => let ⟨g, c, q1, q2⟩ := h3 i hi; ⟨g, c, cell_later hb q1, q2.later hb⟩,
    f, h4.kept (hb.block M h4.lt), fun k => ⟨(h5 k).1, (h5 k).2.later hb⟩⟩

theorem Fin2.drew {wr : World} {kb ko Mb Ob M N : Nat} {K : Nat → Int} {LL : Nat → List Int} (h : Fin2 wr kb ko Mb Ob M N K LL) (n : Nat) : Fin2 (wr.drewN n) kb ko Mb Ob M N K LL := ⟨h.keys, h.model, h.got, h.map⟩

theorem rd_nil (w : World) : Rd w (.slice none 0 0) [] := ⟨none, 0, rfl, Nat.le_refl _, by omega, fun h => absurd rfl h⟩

theorem inv2_fin {w1 wr : World} {kb ko Gb Mb N : Nat} {K : Nat → Int} {LL : Nat → List Int} (hs : Stat w1 kb ko Gb Mb N K LL) (h : Inv2 w1 N K LL N wr) : Fin2 wr kb ko Mb (w1.heap.size + 2) w1.heap.size N K LL := by
  have hS := hs.later h.below
  obtain ⟨hb, hsz, hgot, F, hst, hpl, hblk, hold⟩ := h
  refine ⟨hS.keys, fun i hi => ?_, fun i hi => ?_, fun k => (F k).map Prod.fst, hst.map, fun k => ⟨by rw [← hpl]; simp, ?_⟩⟩
  · obtain ⟨v, q1, q2⟩ := hS.model i hi
    obtain ⟨a, c, rfl⟩ := rd_shape q2
    exact ⟨a, c, q1, q2⟩
  · obtain ⟨v, q1, q2⟩ := hold i hi
    have q3 := q2.rd
    obtain ⟨g, c, cur, rfl, _⟩ := q2
    exact ⟨g, c, q1, q3⟩
  · rw [← hpl]
    dsimp only
    cases hF : F k with
    | none => exact rd_nil wr
    | some p => exact (hst.own k p.1 p.2 hF).rd

/-! ### first, longest -/
def ixM (f : Int → Option Nat) : Int → Option Value := fun k => (f k).map (fun j => Value.int .i64 (j : Int))

structure Inv4 (w3 : World) (K : Nat → Int) (LL : Nat → List Int) (i : Nat) (wr : World) : Prop where
  below : Below w3.heap.size w3 wr
  size : wr.heap.size = w3.heap.size + 2
  first : MapIs wr w3.heap.size (ixM (fst' K LL i)) (cnt K LL i)
  longest : ∃ c, c ≤ i ∧ MapIs wr (w3.heap.size + 1) (ixM (lng K LL i)) c

theorem inv4_start (w3 : World) (K : Nat → Int) (LL : Nat → List Int) : Inv4 w3 K LL 0 ((w3.alloc (.map #[] 0)).alloc (.map #[] 0)) := by
  have hs : (w3.alloc (.map #[] 0)).heap.size = w3.heap.size + 1 := by simp
  refine ⟨((Below.refl _ _).alloc (Nat.le_refl _) _).alloc (by omega) _, by simp, ?_, 0, Nat.le_refl _, ?_⟩
  · exact (mapIs_made w3).kept (Below.heap_alloc _ _ _ (by omega))
  · have := mapIs_made (w3.alloc (.map #[] 0))
    rw [hs] at this
    exact this

theorem Inv4.drew {w3 : World} {K : Nat → Int} {LL : Nat → List Int} {i : Nat} {wr : World} (h : Inv4 w3 K LL i wr) (n : Nat) : Inv4 w3 K LL i (wr.drewN n) := ⟨⟨h.below.os, h.below.tape, h.below.output, h.below.size, h.below.block⟩, h.size, h.first, h.longest⟩

theorem inv4_skip {w3 : World} {K : Nat → Int} {LL : Nat → List Int} {i : Nat} {wr : World} (h : Inv4 w3 K LL i wr) (h0 : LL i = []) : Inv4 w3 K LL (i + 1) wr := by
  have e1 : fst' K LL (i + 1) = fst' K LL i := by funext k; rw [fst', if_pos (.inl h0)]
  have e2 : lng K LL (i + 1) = lng K LL i := by funext k; rw [lng, if_pos (.inl h0)]
  have e3 : cnt K LL (i + 1) = cnt K LL i := by rw [cnt, if_pos h0]
  obtain ⟨hb, hs, hf, c, hc, hl⟩ := h
  exact ⟨hb, hs, by rw [e1, e3]; exact hf, c, by omega, by rw [e2]; exact hl⟩

/-- The first list of its key. -/
theorem inv4_new {w3 : World} {K : Nat → Int} {LL : Nat → List Int} {i : Nat} {wr : World} (h : Inv4 w3 K LL i wr) (h0 : LL i ≠ []) (hs : fst' K LL i (K i) = none) (hk : (Lit.int .i64 (K i)).wf = true) (hi : i < 65536) :
    ∃ w1 w2, (Instr.mapUpdate 36 (.map (some w3.heap.size)) (.int .i64 (K i)) (.int .i64 (i : Int))).run Try.prog wr = .ok () w1 ∧
      (Instr.mapUpdate 36 (.map (some (w3.heap.size + 1))) (.int .i64 (K i)) (.int .i64 (i : Int))).run Try.prog w1 = .ok () w2 ∧ Inv4 w3 K LL (i + 1) w2 := by
  obtain ⟨hb, hsz, hf, c, hc, hl⟩ := h
  have hcn := cnt_le (K := K) (LL := LL) i
  have hln : lng K LL i (K i) = none := by
    have := lng_some_of (K := K) (LL := LL) i (K i)
    rw [hs] at this
    simpa using this
  obtain ⟨w1, r1, m1, g1, s1⟩ := hf.store Try.underlying36 (by simp only [maxLen]; omega) hk (.int .i64 (i : Int))
  have hl1 : MapIs w1 (w3.heap.size + 1) (ixM (lng K LL i)) c := hl.kept (g1.block _ (by omega) (by simp))
  obtain ⟨w2, r2, m2, g2, s2⟩ := hl1.store Try.underlying36 (by simp only [maxLen]; omega) hk (.int .i64 (i : Int))
  refine ⟨w1, w2, r1, r2, (hb.grown g1 (by omega) (by intro k hk; cases hk; exact Nat.le_refl _)).grown g2 (by omega) (by intro k hk; cases hk; omega), by omega, ?_, if ((ixM (lng K LL i)) (K i)).isSome then c else c + 1, by split <;> omega, ?_⟩
  · have hcnt : (if ((ixM (fst' K LL i)) (K i)).isSome = true then cnt K LL i else cnt K LL i + 1) = cnt K LL (i + 1) := by
      rw [cnt, if_neg h0, st_some_of, hs]
      simp [ixM, hs]
    rw [hcnt] at m1
    refine (m1.kept (g2.block _ (by omega) (by simp))).congr (fun k hk => ?_)
    by_cases hkk : k = K i
    · subst hkk
      rw [upd_same]
      unfold ixM
      rw [fst', if_neg (by simp [h0]), hs]
      rfl
    · rw [upd_other _ _ hkk]
      unfold ixM
      rw [fst', if_pos (.inr hkk)]
  · refine m2.congr (fun k hk => ?_)
    by_cases hkk : k = K i
    · subst hkk
      rw [upd_same]
      unfold ixM
      rw [lng, if_neg (by simp [h0]), hln]
      rfl
    · rw [upd_other _ _ hkk]
      unfold ixM
      rw [lng, if_pos (.inr hkk)]

/-- A longer list of a key that was met before. -/
theorem inv4_longer {w3 : World} {K : Nat → Int} {LL : Nat → List Int} {i : Nat} {wr : World} (h : Inv4 w3 K LL i wr) (h0 : LL i ≠ []) {j : Nat} (hj : lng K LL i (K i) = some j) (hlt : (LL j).length < (LL i).length) (hk : (Lit.int .i64 (K i)).wf = true) (hi : i < 65536) :
    ∃ w1, (Instr.mapUpdate 36 (.map (some (w3.heap.size + 1))) (.int .i64 (K i)) (.int .i64 (i : Int))).run Try.prog wr = .ok () w1 ∧ Inv4 w3 K LL (i + 1) w1 := by
  obtain ⟨hb, hsz, hf, c, hc, hl⟩ := h
  have hfs : (fst' K LL i (K i)).isSome = true := by rw [← lng_some_of, hj]; rfl
  obtain ⟨w1, r1, m1, g1, s1⟩ := hl.store Try.underlying36 (by simp only [maxLen]; omega) hk (.int .i64 (i : Int))
  refine ⟨w1, r1, hb.grown g1 (by omega) (by intro k hk; cases hk; omega), by omega, ?_, if ((ixM (lng K LL i)) (K i)).isSome then c else c + 1, by split <;> omega, ?_⟩
  · have e3 : cnt K LL (i + 1) = cnt K LL i := by rw [cnt, if_neg h0, st_some_of, hfs]; rfl
    rw [e3]
    refine (hf.kept (g1.block _ (by omega) (by simp))).congr (fun k hk => ?_)
    unfold ixM
    rw [fst']
    split
    · rfl
    · rename_i hc'
      have hkk : k = K i := Classical.byContradiction (fun e => hc' (.inr e))
      rw [hkk, if_pos hfs]
  · refine m1.congr (fun k hk => ?_)
    by_cases hkk : k = K i
    · subst hkk
      rw [upd_same]
      unfold ixM
      rw [lng, if_neg (by simp [h0]), hj]
      dsimp only
      rw [if_pos hlt]
      rfl
    · rw [upd_other _ _ hkk]
      unfold ixM
      rw [lng, if_pos (.inr hkk)]

/-- A list of a key that was met before, no longer than the longest. -/
theorem inv4_same {w3 : World} {K : Nat → Int} {LL : Nat → List Int} {i : Nat} {wr : World} (h : Inv4 w3 K LL i wr) (h0 : LL i ≠ []) {j : Nat} (hj : lng K LL i (K i) = some j) (hlt : ¬ (LL j).length < (LL i).length) : Inv4 w3 K LL (i + 1) wr := by
  obtain ⟨hb, hsz, hf, c, hc, hl⟩ := h
  have hfs : (fst' K LL i (K i)).isSome = true := by rw [← lng_some_of, hj]; rfl
  have e1 : fst' K LL (i + 1) = fst' K LL i := by
    funext k
    rw [fst']
    split
    · rfl
    · rename_i hc'
      have hkk : k = K i := Classical.byContradiction (fun e => hc' (.inr e))
      rw [hkk, if_pos hfs]
  have e2 : lng K LL (i + 1) = lng K LL i := by
    funext k
    rw [lng]
    split
    · rfl
    · rename_i hc'
      have hkk : k = K i := Classical.byContradiction (fun e => hc' (.inr e))
      rw [hkk, hj]
      dsimp only
      rw [if_neg hlt]
  have e3 : cnt K LL (i + 1) = cnt K LL i := by rw [cnt, if_neg h0, st_some_of, hfs]; rfl
  exact ⟨hb, hsz, by rw [e1, e3]; exact hf, c, by omega, by rw [e2]; exact hl⟩

/-- A key that has a list that is not empty has a first one. -/
theorem seen_some {K : Nat → Int} {LL : Nat → List Int} {t : Nat} (hn : LL t ≠ []) : ∀ m, t < m → (fst' K LL m (K t)).isSome = true := by
  intro m
  induction m with
  | zero => intro h; omega
  | succ m ih =>
    intro h
    rw [fst']
    by_cases em : t = m
    · subst em
      rw [if_neg (by simp [hn])]
      split
      · assumption
      · rfl
    · have := ih (by omega)
      split
      · exact this
      · exact this

/-! ### broken -/
section
variable (K : Nat → Int) (LL : Nat → List Int) (N : Nat)
/-- Has a list of k, of the first i steps, disagreed with a longest one? -/
def brk : Nat → Int → Bool
  | 0, _ => false
  | i + 1, k => if LL i ≠ [] ∧ k = K i ∧ agr (LL i) (LL ((lng K LL N k).getD 0)) = false then true else brk i k
/-- Is the entry of k, at the end, one of the first i lists of k? -/
def mtc : Nat → Int → Bool
  | 0, _ => false
  | i + 1, k => if k = K i ∧ st K LL N k = some (LL i) then true else mtc i k
end

variable {K : Nat → Int} {LL : Nat → List Int} {N : Nat}

theorem brk_law : ∀ i k, brk K LL N i k = false → ∀ t, t < i → K t = k → LL t ≠ [] → agr (LL t) (LL ((lng K LL N k).getD 0)) = true := by
  intro i
  induction i with
  | zero => intro k _ t ht; omega
  | succ i ih =>
    intro k h t ht hk hn
    rw [brk] at h
    split at h
    · cases h
    · rename_i hc
      by_cases e : t = i
      · subst e
        cases ha : agr (LL t) (LL ((lng K LL N k).getD 0)) with
        | true => rfl
        | false => exact absurd ⟨hn, hk.symm, ha⟩ hc
      · exact ih k h t (by omega) hk hn

theorem brk_same {i : Nat} (h : LL i = [] ∨ agr (LL i) (LL ((lng K LL N (K i)).getD 0)) = true) (k : Int) : brk K LL N (i + 1) k = brk K LL N i k := by
  rw [brk, if_neg]
  rintro ⟨h1, rfl, h3⟩
  rcases h with h | h
  · exact h1 h
  · rw [h] at h3; cases h3

theorem brk_new {i : Nat} (h0 : LL i ≠ []) (h : agr (LL i) (LL ((lng K LL N (K i)).getD 0)) = false) (k : Int) : brk K LL N (i + 1) k = if k = K i then true else brk K LL N i k := by
  rw [brk]
  by_cases e : k = K i
  · subst e
    rw [if_pos ⟨h0, rfl, h⟩, if_pos rfl]
  · rw [if_neg (fun hh => e hh.2.1), if_neg e]

theorem mtc_same {i : Nat} (h : st K LL N (K i) ≠ some (LL i)) (k : Int) : mtc K LL N (i + 1) k = mtc K LL N i k := by
  rw [mtc, if_neg]
  rintro ⟨rfl, h2⟩
  exact h h2

theorem mtc_new {i : Nat} (h : st K LL N (K i) = some (LL i)) (k : Int) : mtc K LL N (i + 1) k = if k = K i then true else mtc K LL N i k := by
  rw [mtc]
  by_cases e : k = K i
  · subst e
    rw [if_pos ⟨rfl, h⟩, if_pos rfl]
  · rw [if_neg (fun hh => e hh.1), if_neg e]

theorem mtc_law : ∀ i k t, t < i → K t = k → st K LL N k = some (LL t) → mtc K LL N i k = true := by
  intro i
  induction i with
  | zero => intro k t ht; omega
  | succ i ih =>
    intro k t ht hk hs
    rw [mtc]
    by_cases e : t = i
    · subst e
      rw [if_pos ⟨hk.symm, hs⟩]
    · split
      · rfl
      · exact ih k t (by omega) hk hs

def boM (f : Int → Bool) : Int → Option Value := fun k => if f k then some (.bool true) else none
theorem boM_getD (f : Int → Bool) (k : Int) : (boM f k).getD (.bool false) = .bool (f k) := by
  unfold boM; cases f k <;> rfl

/-- A map of bools that is only ever stored true into: one store. -/
theorem bool_store {wr : World} {b c : Nat} {f g : Int → Bool} (h : MapIs wr b (boM f) c) (hc : c < maxLen) {k : Int} (hk : (Lit.int .i64 k).wf = true) (hg : ∀ k', g k' = if k' = k then true else f k') :
    ∃ w1, (Instr.mapUpdate 38 (.map (some b)) (.int .i64 k) (.bool true)).run Try.prog wr = .ok () w1 ∧ (∃ c', c' ≤ c + 1 ∧ MapIs w1 b (boM g) c') ∧ wr.grownBy w1 (some b) ∧ w1.heap.size = wr.heap.size := by
  obtain ⟨w1, r1, m1, g1, s1⟩ := h.store Try.underlying38 hc hk (.bool true)
  refine ⟨w1, r1, ⟨_, ?_, m1.congr (fun k' hk' => ?_)⟩, g1, s1⟩
  · split <;> omega
  · unfold upd boM
    rw [hg]
    by_cases e : k' = k
    · simp [e]
    · simp [e]

structure Inv5 (w4 : World) (b : Nat) (f : Nat → Int → Bool) (i : Nat) (wr : World) : Prop where
  below : Below w4.heap.size w4 wr
  size : wr.heap.size = w4.heap.size + 1
  map : ∃ c, c ≤ i ∧ MapIs wr w4.heap.size (boM (f i)) c

theorem inv5_start (w4 : World) (b : Nat) {f : Nat → Int → Bool} (h : ∀ k, f 0 k = false) : Inv5 w4 b f 0 (w4.alloc (.map #[] 0)) :=
  ⟨(Below.refl _ _).alloc (Nat.le_refl _) _, by simp, 0, Nat.le_refl _, (mapIs_made w4).congr (fun k _ => by simp [boM, h])⟩

theorem Inv5.drew {w4 : World} {b : Nat} {f : Nat → Int → Bool} {i : Nat} {wr : World} (h : Inv5 w4 b f i wr) (n : Nat) : Inv5 w4 b f i (wr.drewN n) := ⟨⟨h.below.os, h.below.tape, h.below.output, h.below.size, h.below.block⟩, h.size, h.map⟩

theorem inv5_skip {w4 : World} {b : Nat} {f : Nat → Int → Bool} {i : Nat} {wr : World} (h : Inv5 w4 b f i wr) (hf : ∀ k, f (i + 1) k = f i k) : Inv5 w4 b f (i + 1) wr := by
  obtain ⟨hb, hs, c, hc, hm⟩ := h
  exact ⟨hb, hs, c, by omega, hm.congr (fun k _ => by simp [boM, hf])⟩

theorem inv5_store {w4 : World} {b : Nat} {f : Nat → Int → Bool} {i : Nat} {wr : World} (h : Inv5 w4 b f i wr) (hi : i < 65536) {k : Int} (hk : (Lit.int .i64 k).wf = true) (hf : ∀ k', f (i + 1) k' = if k' = k then true else f i k') :
    ∃ w1, (Instr.mapUpdate 38 (.map (some w4.heap.size)) (.int .i64 k) (.bool true)).run Try.prog wr = .ok () w1 ∧ Inv5 w4 b f (i + 1) w1 := by
  obtain ⟨hb, hs, c, hc, hm⟩ := h
  obtain ⟨w1, r1, ⟨c', hc', m1⟩, g1, s1⟩ := bool_store hm (by simp only [maxLen]; omega) hk hf
  exact ⟨w1, r1, hb.grown g1 (by omega) (by intro k hk; cases hk; exact Nat.le_refl _), by omega, c', by omega, m1⟩

end Go.Proofs.Qxb6617284a
