/-
  (*readLists).keep (function 15) and its doors ZZKeep (10), ZZNewReadLists (9), ZZScratchOf (13).
-/
import Derived.Test.Qxb6617284aSame
import Derived.Test.Qxb6617284aApp
import Derived.Test.Qxb6617284aMaps
namespace Go.Proofs.Qxb6617284a
set_option linter.unusedVariables false
open Go.RowKit Go.Deep Go.Maps

theorem zero22 (w : World) : (zeroValue 22).run Try.prog w = .ok (.slice none 0 0) w := by kernel_rfl

set_option maxHeartbeats 400000 in
theorem keep_empty (l : Nat) (key : Int) (a : Option Addr) (c : Nat) (w : World) :
    Calls Try.prog 15 #[.pointer (some ⟨l, 0, none⟩), .int .i64 key, .slice a 0 c] w fun e w' => e = .returned (.slice (some ⟨w.heap.size, 0, none⟩) 0 0) ∧ w' = w.alloc (.cells #[] 2) := by
  go_enter Try.func15, Try.ntmps15
  go_wp2
  go_ret
  exact ⟨rfl, rfl⟩

/-- The comparison that keep makes, in whatever draw. -/
theorem equal_at {w : World} {v1 v2 : Value} {xs ys : List Int} (hl : ys.length = xs.length) (h1 : Rd w v1 xs) (h2 : Rd w v2 ys) {r : Bool} (hr : decide (xs = ys) = r) (n : Nat) :
    Calls Try.prog 16 #[v1, v2] (w.drewN n) fun e w' => e = .returned (.bool r) ∧ ∃ m, w' = (w.drewN n).drewN m := by
  subst hr
  exact equal_any hl h1 h2

set_option maxHeartbeats 400000 in
theorem keep_same (l M : Nat) (key : Int) (b o L c g X cap : Nat) (w : World) (hL0 : 0 < L) (hLX : L ≤ X) (hcap : X ≤ cap) (hLc : L ≤ c) (hc : c ≤ 9223372036854775807) (hcm : cap ≤ 9223372036854775807)
    (c0 : w.cell? ⟨l, 0, none⟩ = some (.map (some M))) (hlk : (Instr.lookup 26 (.map (some M)) (.int .i64 key) false).run Try.prog w = .ok (.slice (some ⟨g, 0, none⟩) X cap) w)
    (heq : ∀ n, Calls Try.prog 16 #[.slice (some ⟨b, o, none⟩) L c, .slice (some ⟨g, 0, none⟩) L cap] (w.drewN n) fun e w' => e = .returned (.bool true) ∧ ∃ m, w' = (w.drewN n).drewN m) :
    Calls Try.prog 15 #[.pointer (some ⟨l, 0, none⟩), .int .i64 key, .slice (some ⟨b, o, none⟩) L c] w fun e w' => e = .returned (.slice (some ⟨g, 0, none⟩) L L) ∧ ∃ n, w' = w.drewN n := by
  have HQ : Hid (∀ n, Calls Try.prog 16 #[.slice (some ⟨b, o, none⟩) L c, .slice (some ⟨g, 0, none⟩) L cap] (w.drewN n) fun e w' => e = .returned (.bool true) ∧ ∃ m, w' = (w.drewN n).drewN m) := heq
  clear heq
  go_enter Try.func15, Try.ntmps15
  go_wp2
  go_quiet ((go_at_call 16; exact Calls.quiet_of (HQ.out _)))
  go_wp2
  go_ret
  exact ⟨rfl, nq, rfl⟩

set_option maxHeartbeats 800000 in
theorem keep_dis (l M : Nat) (key : Int) (b o L c g X cap N : Nat) (w : World) (Q : Ending → World → Prop) (hN : Hid (N = min L X)) (hL0 : 0 < L) (hcap : X ≤ cap) (hLc : L ≤ c) (hc : c ≤ 9223372036854775807) (hcm : cap ≤ 9223372036854775807)
    (c0 : w.cell? ⟨l, 0, none⟩ = some (.map (some M))) (hlk : (Instr.lookup 26 (.map (some M)) (.int .i64 key) false).run Try.prog w = .ok (.slice (some ⟨g, 0, none⟩) X cap) w)
    (heq : ∀ n, Calls Try.prog 16 #[.slice (some ⟨b, o, none⟩) N c, .slice (some ⟨g, 0, none⟩) N cap] (w.drewN n) fun e w' => e = .returned (.bool false) ∧ ∃ m, w' = (w.drewN n).drewN m)
    (hcl : ∀ n, Calls Try.prog 17 #[.slice (some ⟨b, o, none⟩) L c] (w.drewN n) fun e w' => ∃ g1 cap1, e = .returned (.slice (some ⟨g1, 0, none⟩) L cap1) ∧ Q (.returned (.slice (some ⟨g1, 0, none⟩) L cap1)) w') :
    Calls Try.prog 15 #[.pointer (some ⟨l, 0, none⟩), .int .i64 key, .slice (some ⟨b, o, none⟩) L c] w Q := by
  have HQ : Hid (∀ n, Calls Try.prog 16 #[.slice (some ⟨b, o, none⟩) N c, .slice (some ⟨g, 0, none⟩) N cap] (w.drewN n) fun e w' => e = .returned (.bool false) ∧ ∃ m, w' = (w.drewN n).drewN m) := heq
  have HC : Hid (∀ n, Calls Try.prog 17 #[.slice (some ⟨b, o, none⟩) L c] (w.drewN n) fun e w' => ∃ g1 cap1, e = .returned (.slice (some ⟨g1, 0, none⟩) L cap1) ∧ Q (.returned (.slice (some ⟨g1, 0, none⟩) L cap1)) w') := hcl
  clear heq hcl
  rcases Nat.lt_or_ge X L with hXL | hLX
  · obtain rfl : N = X := by have := hN.out; omega
    clear hN
    go_enter Try.func15, Try.ntmps15
    go_wp2
    go_quiet ((go_at_call 16; exact Calls.quiet_of (HQ.out _)))
    go_wp2_with (go_at_call 17; refine (HC.out _).mono ?_; rintro e w1 ⟨g1, cap1, rfl, hq⟩)
    assumption
  · obtain rfl : N = L := by have := hN.out; omega
    clear hN
    go_enter Try.func15, Try.ntmps15
    go_wp2
    go_quiet ((go_at_call 16; exact Calls.quiet_of (HQ.out _)))
    go_wp2_with (go_at_call 17; refine (HC.out _).mono ?_; rintro e w1 ⟨g1, cap1, rfl, hq⟩)
    assumption

/-- The state of a readLists at block l: its map at M holds, at each key of F, a slice that owns its list; no two keys' slices lie in one row. -/
structure LSt (w : World) (l M : Nat) (sc : Value) (F : Int → Option (Value × List Int)) (n : Nat) : Prop where
  cells : w.heap[l]? = some (.cells #[.map (some M), sc] 40 (0, 0))
  map : MapIs w M (fun k => (F k).map Prod.fst) n
  own : ∀ k v xs, F k = some (v, xs) → Own w v xs
  apart : ∀ k k' v v' xs xs' g, F k = some (v, xs) → F k' = some (v', xs') → v.ownBlock = some g → v'.ownBlock = some g → k = k'

/-- What lies at a key: the value and its list; nil where there is none. -/
def entV (F : Int → Option (Value × List Int)) (key : Int) : Value := ((F key).map Prod.fst).getD (.slice none 0 0)
def entL (F : Int → Option (Value × List Int)) (key : Int) : List Int := ((F key).map Prod.snd).getD []

theorem LSt.ent {w : World} {l M : Nat} {sc : Value} {F : Int → Option (Value × List Int)} {n : Nat} (h : LSt w l M sc F n) (key : Int) : Own w (entV F key) (entL F key) := by
  unfold entV entL
  cases hF : F key with
  | none => exact World.ownsRow_nil _ _ _ _
  | some p => exact h.own key p.1 p.2 hF

theorem LSt.look {w : World} {l M : Nat} {sc : Value} {F : Int → Option (Value × List Int)} {n : Nat} (h : LSt w l M sc F n) {key : Int} (hk : (Lit.int .i64 key).wf = true) :
    (Instr.lookup 26 (.map (some M)) (.int .i64 key) false).run Try.prog w = .ok (entV F key) w := h.map.look Try.underlying26 (zero22 w) hk

theorem LSt.cell0 {w : World} {l M : Nat} {sc : Value} {F : Int → Option (Value × List Int)} {n : Nat} (h : LSt w l M sc F n) : w.cell? ⟨l, 0, none⟩ = some (.map (some M)) := by
  simp [World.cell?, h.cells]

theorem LSt.ne {w : World} {l M : Nat} {sc : Value} {F : Int → Option (Value × List Int)} {n : Nat} (h : LSt w l M sc F n) : l ≠ M := by
  intro e
  obtain ⟨es, clock, hb⟩ := h.map.block
  rw [← e, h.cells] at hb
  cases hb

theorem LSt.row_ne {w : World} {l M : Nat} {sc : Value} {F : Int → Option (Value × List Int)} {n : Nat} (h : LSt w l M sc F n) {v : Value} {xs : List Int} (ho : Own w v xs) {g : Nat} (hg : v.ownBlock = some g) : g ≠ l ∧ g ≠ M := by
  rcases ho.2 with ⟨rfl, _⟩ | ⟨g', cap, cur, rfl, _, hgg, _⟩
  · simp [Value.ownBlock] at hg
  · simp [Value.ownBlock] at hg
    subst hg
    constructor
    · intro e
      rw [e, h.cells] at hgg
      simp at hgg
    · intro e
      obtain ⟨es, clock, hb⟩ := h.map.block
      rw [e, hb] at hgg
      cases hgg

/-- The state stands while the blocks that it looks at stand. -/
theorem LSt.kept {w w' : World} {l M : Nat} {sc : Value} {F : Int → Option (Value × List Int)} {n : Nat} (h : LSt w l M sc F n) (hb : ∀ k, k < w.heap.size → w'.heap[k]? = w.heap[k]?) : LSt w' l M sc F n := by
  have hl : l < w.heap.size := (Array.getElem?_eq_some_iff.1 h.cells).1
  exact ⟨(hb l hl).trans h.cells, h.map.kept (hb M h.map.lt), fun k v xs hF => (h.own k v xs hF).kept (fun g hg => hb g ((h.own k v xs hF).lt hg)), h.apart⟩

/-- What a keep that lengthens key's list has done. -/
def GrowQ (w : World) (l M : Nat) (sc : Value) (F : Int → Option (Value × List Int)) (n : Nat) (key : Int) (ls : List Int) (e : Ending) (w' : World) : Prop :=
  ∃ g cap, e = .returned (.slice (some ⟨g, 0, none⟩) ls.length ls.length) ∧
    LSt w' l M sc (upd F key (.slice (some ⟨g, 0, none⟩) ls.length cap, ls)) (if (F key).isSome then n else n + 1) ∧
    Below 0 w w' ∧ g < w'.heap.size ∧ (g = w.heap.size ∨ (entV F key).ownBlock = some g) ∧ ∀ k, k < w.heap.size → k ≠ M → k ≠ g → w'.heap[k]? = w.heap[k]?

/-- What the append and the store of a growing keep leave: outside the walk. -/
theorem grow_facts {w : World} {l M : Nat} {sc : Value} {F : Int → Option (Value × List Int)} {n : Nat} (hst : LSt w l M sc F n) {key : Int} (hk : (Lit.int .i64 key).wf = true) (hn : n < maxLen) {ls : List Int} {nq g1 cap1 : Nat} {w1 : World}
    (hO : Own w1 (.slice (some ⟨g1, 0, none⟩) ls.length cap1) ls) (hLd : Laid (w.drewN nq) w1 (entV F key) g1) :
    w1.cell? ⟨l, 0, none⟩ = some (.map (some M)) ∧ ls.length ≤ cap1 ∧ cap1 ≤ 9223372036854775807 ∧
      ∃ w2, (Instr.mapUpdate 26 (.map (some M)) (.int .i64 key) (.slice (some ⟨g1, 0, none⟩) ls.length cap1)).run Try.prog w1 = .ok () w2 ∧ GrowQ w l M sc F n key ls (.returned (.slice (some ⟨g1, 0, none⟩) ls.length ls.length)) w2 := by
  have hl : l < w.heap.size := (Array.getElem?_eq_some_iff.1 hst.cells).1
  have hM : M < w.heap.size := hst.map.lt
  obtain ⟨hB, hC⟩ := hLd
  have hB' : Below 0 w w1 := ⟨hB.os, hB.tape, hB.output, hB.size, fun k hk => by omega⟩
  -- the two places of the new row
  have hcase : (g1 = w.heap.size ∨ (entV F key).ownBlock = some g1) ∧ g1 ≠ l ∧ g1 ≠ M ∧ g1 < w1.heap.size ∧ ∀ k, k < w.heap.size → k ≠ g1 → w1.heap[k]? = w.heap[k]? := by
    rcases hC with ⟨h1, h2, h3⟩ | ⟨h1, h2, h3⟩
    · have h1' : g1 = w.heap.size := h1
      have h2' : w1.heap.size = w.heap.size + 1 := h2
      exact ⟨.inl h1', by omega, by omega, by omega, fun k hk _ => h3 k hk⟩
    · have h2' : w1.heap.size = w.heap.size := h2
      obtain ⟨r1, r2⟩ := hst.row_ne (hst.ent key) h1
      exact ⟨.inr h1, r1, r2, by rw [h2']; exact (hst.ent key).lt h1, fun k _ hk => h3 k hk⟩
  obtain ⟨hat, hgl, hgM, hg1, hblk⟩ := hcase
  have hl1 : w1.heap[l]? = some (.cells #[.map (some M), sc] 40 (0, 0)) := (hblk l hl (Ne.symm hgl)).trans hst.cells
  have hm1 : MapIs w1 M (fun k => (F k).map Prod.fst) n := hst.map.kept (hblk M hM (Ne.symm hgM))
  obtain ⟨w2, hr2, hm2, hg2, hs2⟩ := hm1.store Try.underlying26 hn hk (.slice (some ⟨g1, 0, none⟩) ls.length cap1)
  have hsz1 := hB'.size
  have hblk2 : ∀ k, k < w1.heap.size → k ≠ M → w2.heap[k]? = w1.heap[k]? := fun k hk hne => hg2.block k hk (by simpa using hne)
  rcases hO.form with ⟨h, _⟩ | ⟨g', cap', he, hc1, hc2, _⟩
  · cases h
  simp only [Value.slice.injEq, Option.some.injEq, Addr.mk.injEq] at he
  obtain ⟨_, _, rfl⟩ := he
  refine ⟨by simp [World.cell?, hl1], hc1, hc2, w2, hr2, g1, cap1, rfl, ⟨?_, ?_, ?_, ?_⟩, ?_, by omega, hat, ?_⟩
  · rw [hblk2 l (by omega) hst.ne]; exact hl1
  · have e : (if ((F key).map Prod.fst).isSome = true then n else n + 1) = if (F key).isSome then n else n + 1 := by simp
    rw [e] at hm2
    refine hm2.congr (fun k hk => ?_)
    by_cases hkk : k = key
    · subst hkk; simp [upd]
    · simp [upd, hkk]
  · intro k v xs hF
    by_cases hkk : k = key
    · subst hkk
      rw [upd_same] at hF
      simp only [Option.some.injEq, Prod.mk.injEq] at hF
      obtain ⟨rfl, rfl⟩ := hF
      exact hO.kept (fun g hg => by simp [Value.ownBlock] at hg; subst hg; exact hblk2 _ hg1 hgM)
    · rw [upd_other _ _ hkk] at hF
      have ho := hst.own k v xs hF
      refine ho.kept (fun g hg => ?_)
      have hglt := ho.lt hg
      have hgM' := (hst.row_ne ho hg).2
      have hgg : g ≠ g1 := by
        rcases hat with h | h
        · omega
        · intro e
          subst e
          cases hFk : F key with
          | none => simp [entV, hFk, Value.ownBlock] at h
          | some p => simp [entV, hFk] at h; exact hkk (hst.apart k key v p.1 xs p.2 g hF hFk hg h)
      rw [hblk2 g (by omega) hgM']
      exact hblk g hglt hgg
  · intro k k' v v' xs xs' g hF hF' hg hg'
    -- another key's row is not the new one
    have far : ∀ k v xs, k ≠ key → F k = some (v, xs) → v.ownBlock ≠ some g1 := by
      intro k v xs hne hF hg
      have hlt := (hst.own k v xs hF).lt hg
      rcases hat with h | h
      · omega
      · cases hFk : F key with
        | none => simp [entV, hFk, Value.ownBlock] at h
        | some p => simp [entV, hFk] at h; exact hne (hst.apart k key v p.1 xs p.2 g1 hF hFk hg h)
    by_cases hk1 : k = key
    · by_cases hk2 : k' = key
      · rw [hk1, hk2]
      · subst hk1
        rw [upd_same] at hF
        simp only [Option.some.injEq, Prod.mk.injEq] at hF
        obtain ⟨rfl, rfl⟩ := hF
        rw [upd_other _ _ hk2] at hF'
        simp [Value.ownBlock] at hg
        subst hg
        exact absurd hg' (far k' v' xs' hk2 hF')
    · rw [upd_other _ _ hk1] at hF
      by_cases hk2 : k' = key
      · subst hk2
        rw [upd_same] at hF'
        simp only [Option.some.injEq, Prod.mk.injEq] at hF'
        obtain ⟨rfl, rfl⟩ := hF'
        simp [Value.ownBlock] at hg'
        subst hg'
        exact absurd hg (far k v xs hk1 hF)
      · rw [upd_other _ _ hk2] at hF'
        exact hst.apart k k' v v' xs xs' g hF hF' hg hg'
  · exact ⟨hg2.os.trans hB'.os, hg2.tape.trans hB'.tape, hg2.output.trans hB'.output, by omega, fun k hk => by omega⟩
  · intro k hk hkM hkg
    rw [hblk2 k (by omega) hkM]
    exact hblk k hk hkg

theorem drop_cells {w : World} {b o : Nat} {ls : List Int} {X : Nat} (hcell : ∀ j, j < ls.length → w.cell? ⟨b, o + j, none⟩ = some (.int .i64 (ls[j]?.getD 0))) :
    ∀ j, j < (ls.drop X).length → w.cell? ⟨b, o + X + j, none⟩ = some (.int .i64 ((ls.drop X)[j]?.getD 0)) := by
  intro j hj
  rw [List.length_drop] at hj
  rw [List.getElem?_drop, Nat.add_assoc]
  exact hcell (X + j) (by omega)

set_option maxHeartbeats 800000 in
theorem keep_grow {w : World} {l M : Nat} {sc : Value} {F : Int → Option (Value × List Int)} {n : Nat} (hst : LSt w l M sc F n) {key : Int} (hk : (Lit.int .i64 key).wf = true) (hn : n < maxLen)
    (b o c : Nat) (ls : List Int) (g X cap : Nat) (hv : entV F key = .slice (some ⟨g, 0, none⟩) X cap) (hX : (entL F key).length = X) (hXL : X < ls.length) (hpre : ls.take X = entL F key) (hcap : X ≤ cap) (hLc : ls.length ≤ c) (hc : c ≤ 9223372036854775807) (hcm : cap ≤ 9223372036854775807)
    (hbig : ls.length * 8 ≤ 140737488355328)
    (hcell : ∀ j, j < ls.length → w.cell? ⟨b, o + j, none⟩ = some (.int .i64 (ls[j]?.getD 0)))
    (heq : ∀ n, Calls Try.prog 16 #[.slice (some ⟨b, o, none⟩) X c, .slice (some ⟨g, 0, none⟩) X cap] (w.drewN n) fun e w' => e = .returned (.bool true) ∧ ∃ m, w' = (w.drewN n).drewN m) :
    Calls Try.prog 15 #[.pointer (some ⟨l, 0, none⟩), .int .i64 key, .slice (some ⟨b, o, none⟩) ls.length c] w (GrowQ w l M sc F n key ls) := by
  have HQ : Hid (∀ n, Calls Try.prog 16 #[.slice (some ⟨b, o, none⟩) X c, .slice (some ⟨g, 0, none⟩) X cap] (w.drewN n) fun e w' => e = .returned (.bool true) ∧ ∃ m, w' = (w.drewN n).drewN m) := heq
  have hlk := hst.look hk
  rw [hv] at hlk
  have hown := hst.ent key
  rw [hv] at hown
  have c0 := hst.cell0
  have hdrop := drop_cells (X := X) hcell
  have hall : entL F key ++ ls.drop X = ls := by rw [← hpre, List.take_append_drop]
  have hfin : ∀ nq g1 cap1 w1, Own w1 (.slice (some ⟨g1, 0, none⟩) ls.length cap1) (entL F key ++ ls.drop X) → Laid (w.drewN nq) w1 (.slice (some ⟨g, 0, none⟩) X cap) g1 → w1.cell? ⟨l, 0, none⟩ = some (.map (some M)) ∧ ls.length ≤ cap1 ∧ cap1 ≤ 9223372036854775807 ∧
      ∃ w2, (Instr.mapUpdate 26 (.map (some M)) (.int .i64 key) (.slice (some ⟨g1, 0, none⟩) ls.length cap1)).run Try.prog w1 = .ok () w2 ∧ GrowQ w l M sc F n key ls (.returned (.slice (some ⟨g1, 0, none⟩) ls.length ls.length)) w2 := by
    intro nq g1 cap1 w1 h1 h2
    rw [hall] at h1
    rw [← hv] at h2
    exact grow_facts hst hk hn h1 h2
  have hd : (ls.drop X).length = ls.length - X := by simp
  obtain ⟨L, hL⟩ : ∃ L, L = ls.length := ⟨_, rfl⟩
  rw [← hL] at hXL hLc hfin hd ⊢
  have HO : Hid (Own w (.slice (some ⟨g, 0, none⟩) X cap) (entL F key)) := hown
  have HF : Hid (∀ nq g1 cap1 w1, Own w1 (.slice (some ⟨g1, 0, none⟩) L cap1) (entL F key ++ ls.drop X) → Laid (w.drewN nq) w1 (.slice (some ⟨g, 0, none⟩) X cap) g1 → w1.cell? ⟨l, 0, none⟩ = some (.map (some M)) ∧ L ≤ cap1 ∧ cap1 ≤ 9223372036854775807 ∧
      ∃ w2, (Instr.mapUpdate 26 (.map (some M)) (.int .i64 key) (.slice (some ⟨g1, 0, none⟩) L cap1)).run Try.prog w1 = .ok () w2 ∧ GrowQ w l M sc F n key ls (.returned (.slice (some ⟨g1, 0, none⟩) L L)) w2) := hfin
  have HD : Hid (∀ j, j < (ls.drop X).length → w.cell? ⟨b, o + X + j, none⟩ = some (.int .i64 ((ls.drop X)[j]?.getD 0))) := hdrop
  have Hd : Hid ((ls.drop X).length = L - X) := hd
  have hpos0 : 0 < (ls.drop X).length := by rw [hd]; omega
  have hpos : Hid (0 < (ls.drop X).length) := hpos0
  have hby0 : ((entL F key).length + (ls.drop X).length) * 8 ≤ 140737488355328 := by rw [hd, hX]; omega
  have hby : Hid (((entL F key).length + (ls.drop X).length) * 8 ≤ 140737488355328) := hby0
  have hT0 : (entL F key).length + (ls.drop X).length = L := by rw [hd, hX]; omega
  have hT : Hid ((entL F key).length + (ls.drop X).length = L) := hT0
  clear heq hL hX hcell hown hpre hbig hv hst hdrop hall hfin hd hpos0 hby0 hT0
  go_enter Try.func15, Try.ntmps15
  go_wp2
  go_quiet ((go_at_call 16; exact Calls.quiet_of (HQ.out _)))
  go_wp2_with (at_builtin; refine wpList_append_ints _ rfl (.tmp 39) (.tmp 42) rfl _ (entL F key) (ls.drop X) rfl HO.out b (o + X) _ _ rfl Hd.out hpos.out HD.out hby.out L hT.out ?_; intro g1 cap1 w1 hO1 hL1; obtain ⟨c1, hc1, hc2, w2, hr2, hG⟩ := HF.out _ _ _ _ hO1 hL1; clear hO1 hL1)
  go_ret
  exact hG

set_option maxHeartbeats 800000 in
theorem keep_first {w : World} {l M : Nat} {sc : Value} {F : Int → Option (Value × List Int)} {n : Nat} (hst : LSt w l M sc F n) {key : Int} (hk : (Lit.int .i64 key).wf = true) (hn : n < maxLen)
    (b o c : Nat) (ls : List Int) (hv : entV F key = .slice none 0 0) (hx : entL F key = []) (hL0 : 0 < ls.length) (hLc : ls.length ≤ c) (hc : c ≤ 9223372036854775807)
    (hbig : ls.length * 8 ≤ 140737488355328)
    (hcell : ∀ j, j < ls.length → w.cell? ⟨b, o + j, none⟩ = some (.int .i64 (ls[j]?.getD 0))) :
    Calls Try.prog 15 #[.pointer (some ⟨l, 0, none⟩), .int .i64 key, .slice (some ⟨b, o, none⟩) ls.length c] w (GrowQ w l M sc F n key ls) := by
  have hlk := hst.look hk
  rw [hv] at hlk
  have c0 := hst.cell0
  have hfin : ∀ nq g1 cap1 w1, Own w1 (.slice (some ⟨g1, 0, none⟩) ls.length cap1) ([] ++ ls) → Laid (w.drewN nq) w1 (.slice none 0 0) g1 → w1.cell? ⟨l, 0, none⟩ = some (.map (some M)) ∧ ls.length ≤ cap1 ∧ cap1 ≤ 9223372036854775807 ∧
      ∃ w2, (Instr.mapUpdate 26 (.map (some M)) (.int .i64 key) (.slice (some ⟨g1, 0, none⟩) ls.length cap1)).run Try.prog w1 = .ok () w2 ∧ GrowQ w l M sc F n key ls (.returned (.slice (some ⟨g1, 0, none⟩) ls.length ls.length)) w2 := by
    intro nq g1 cap1 w1 h1 h2
    rw [List.nil_append] at h1
    rw [← hv] at h2
    exact grow_facts hst hk hn h1 h2
  obtain ⟨L, hL⟩ : ∃ L, L = ls.length := ⟨_, rfl⟩
  have Hd : Hid (ls.length = L) := hL.symm
  have hpos : Hid (0 < ls.length) := hL0
  have hT0 : ([] : List Int).length + ls.length = L := by simp [hL]
  have hT : Hid (([] : List Int).length + ls.length = L) := hT0
  have hby0 : (([] : List Int).length + ls.length) * 8 ≤ 140737488355328 := by simpa using hbig
  have hby : Hid ((([] : List Int).length + ls.length) * 8 ≤ 140737488355328) := hby0
  rw [← hL] at hL0 hLc hfin ⊢
  have HF : Hid (∀ nq g1 cap1 w1, Own w1 (.slice (some ⟨g1, 0, none⟩) L cap1) ([] ++ ls) → Laid (w.drewN nq) w1 (.slice none 0 0) g1 → w1.cell? ⟨l, 0, none⟩ = some (.map (some M)) ∧ L ≤ cap1 ∧ cap1 ≤ 9223372036854775807 ∧
      ∃ w2, (Instr.mapUpdate 26 (.map (some M)) (.int .i64 key) (.slice (some ⟨g1, 0, none⟩) L cap1)).run Try.prog w1 = .ok () w2 ∧ GrowQ w l M sc F n key ls (.returned (.slice (some ⟨g1, 0, none⟩) L L)) w2) := hfin
  have HD : Hid (∀ j, j < ls.length → w.cell? ⟨b, o + j, none⟩ = some (.int .i64 (ls[j]?.getD 0))) := hcell
  clear hL hcell hbig hv hst hfin hT0 hby0 hx
  go_enter Try.func15, Try.ntmps15
  go_wp2
  go_quiet ((go_at_call 16; exact Calls.quiet_of_same (equal_empty _ _ _ _ _)))
  go_wp2_with (at_builtin; refine wpList_append_ints _ rfl (.tmp 39) (.tmp 42) rfl _ [] ls rfl (World.ownsRow_nil _ _ _ _) b o _ _ rfl Hd.out hpos.out HD.out hby.out L hT.out ?_; intro g1 cap1 w1 hO1 hL1; obtain ⟨c1, hc1, hc2, w2, hr2, hG⟩ := HF.out _ _ _ _ hO1 hL1; clear hO1 hL1)
  go_ret
  exact hG

/-- keep, whole. -/
def KeepQ (w : World) (l M : Nat) (sc : Value) (F : Int → Option (Value × List Int)) (n : Nat) (key : Int) (ls : List Int) (e : Ending) (w' : World) : Prop :=
  (ls = [] ∧ e = .returned (.slice (some ⟨w.heap.size, 0, none⟩) 0 0) ∧ w' = w.alloc (.cells #[] 2)) ∨
  (ls ≠ [] ∧ agr ls (entL F key) = false ∧ ClonedQ w ls e w') ∨
  (ls ≠ [] ∧ agr ls (entL F key) = true ∧ ls.length ≤ (entL F key).length ∧ (∃ g cap, entV F key = .slice (some ⟨g, 0, none⟩) (entL F key).length cap ∧ e = .returned (.slice (some ⟨g, 0, none⟩) ls.length ls.length)) ∧ ∃ m, w' = w.drewN m) ∨
  (ls ≠ [] ∧ agr ls (entL F key) = true ∧ (entL F key).length < ls.length ∧ GrowQ w l M sc F n key ls e w')

theorem Rd.cells {w : World} {b o c n : Nat} {xs : List Int} (h : Rd w (.slice (some ⟨b, o, none⟩) n c) xs) : n = xs.length ∧ n ≤ c ∧ c ≤ 9223372036854775807 ∧ ∀ j, j < xs.length → w.cell? ⟨b, o + j, none⟩ = some (.int .i64 (xs[j]?.getD 0)) := by
  obtain ⟨a, c', he, l1, m1, r⟩ := h
  simp only [Value.slice.injEq] at he
  obtain ⟨rfl, rfl, rfl⟩ := he
  refine ⟨rfl, l1, m1, fun j hj => ?_⟩
  obtain ⟨b', o', hb, hc⟩ := r (by intro e; subst e; simp at hj)
  simp only [Option.some.injEq, Addr.mk.injEq] at hb
  obtain ⟨rfl, rfl, _⟩ := hb
  exact hc j hj

theorem rd_take {w : World} {b o c n : Nat} {xs : List Int} (h : Rd w (.slice (some ⟨b, o, none⟩) n c) xs) {m : Nat} (hm : m ≤ xs.length) : Rd w (.slice (some ⟨b, o, none⟩) m c) (xs.take m) := by
  obtain ⟨rfl, h1, h2, h3⟩ := h.cells
  have hl : (xs.take m).length = m := by simp; omega
  refine ⟨some ⟨b, o, none⟩, c, by rw [hl], by omega, h2, fun _ => ⟨b, o, rfl, fun j hj => ?_⟩⟩
  rw [h3 j (by omega), List.getElem?_take, if_pos (by omega)]

theorem keep_any {w : World} {l M : Nat} {sc : Value} {F : Int → Option (Value × List Int)} {n : Nat} (hst : LSt w l M sc F n) {key : Int} (hk : (Lit.int .i64 key).wf = true) (hn : n < maxLen) {lv : Value} {ls : List Int} (hrd : Rd w lv ls) (hbig : ls.length * 8 ≤ 140737488355328) :
    Calls Try.prog 15 #[.pointer (some ⟨l, 0, none⟩), .int .i64 key, lv] w (KeepQ w l M sc F n key ls) := by
  by_cases h0 : ls = []
  · subst h0
    obtain ⟨a, c, rfl, _, _, _⟩ := hrd
    refine (keep_empty l key a c w).mono ?_
    rintro e w' ⟨rfl, rfl⟩
    exact .inl ⟨rfl, rfl, rfl⟩
  have hpos : 0 < ls.length := List.length_pos_iff.2 h0
  obtain ⟨a, c, rfl, hLc, hcm, hr⟩ := hrd
  obtain ⟨b, o, rfl, hcell⟩ := hr h0
  have hrd : Rd w (.slice (some ⟨b, o, none⟩) ls.length c) ls := ⟨_, c, rfl, hLc, hcm, fun _ => ⟨b, o, rfl, hcell⟩⟩
  rcases (hst.ent key).form with ⟨hv, hx⟩ | ⟨g, cap, hv, hc1, hc2, _⟩
  · refine (keep_first hst hk hn b o c ls hv hx hpos hLc hcm hbig hcell).mono ?_
    intro e w' hq
    exact .inr (.inr (.inr ⟨h0, by rw [hx]; exact agr_nil_right ls, by rw [hx]; simpa using hpos, hq⟩))
  have hown := hst.ent key
  rw [hv] at hown
  have hlk := hst.look hk
  rw [hv] at hlk
  have hR1 := rd_take hrd (m := min ls.length (entL F key).length) (by omega)
  have hR2 := rd_take hown.rd (m := min ls.length (entL F key).length) (by omega)
  have hln : ((entL F key).take (min ls.length (entL F key).length)).length = (ls.take (min ls.length (entL F key).length)).length := by simp
  cases hag : agr ls (entL F key) with
  | false =>
    refine (keep_dis l M key b o ls.length c g (entL F key).length cap (min ls.length (entL F key).length) w (KeepQ w l M sc F n key ls) rfl hpos hc1 hLc hcm hc2 hst.cell0 hlk (fun n => equal_at hln hR1 hR2 hag n) (fun m => ?_))
    have hcl : Calls Try.prog 17 #[.slice (some ⟨b, o, none⟩) ls.length c] (w.drewN m) (ClonedQ (w.drewN m) ls) := sclone_any (w := w.drewN m) hrd h0 hbig
    refine hcl.mono ?_
    rintro e w' ⟨g1, cap1, rfl, r1, r2, r3, r4⟩
    exact ⟨g1, cap1, rfl, .inr (.inl ⟨h0, hag, g1, cap1, rfl, r1, r2, r3, ⟨r4.os, r4.tape, r4.output, r4.size, r4.block⟩⟩)⟩
  | true =>
    rcases Nat.lt_or_ge (entL F key).length ls.length with hlt | hge
    · have hmin : min ls.length (entL F key).length = (entL F key).length := by omega
      have hpre : ls.take (entL F key).length = entL F key := by
        have := of_decide_eq_true hag
        rw [hmin] at this
        rw [this, List.take_of_length_le (Nat.le_refl _)]
      rw [hmin] at hR1 hR2 hln
      refine (keep_grow hst hk hn b o c ls g _ cap hv rfl hlt hpre hc1 hLc hcm hc2 hbig hcell (fun n => equal_at hln hR1 hR2 (by have := hag; unfold agr at this; rw [hmin] at this; exact this) n)).mono ?_
      intro e w' hq
      exact .inr (.inr (.inr ⟨h0, hag, hlt, hq⟩))
    · have hmin : min ls.length (entL F key).length = ls.length := by omega
      rw [hmin] at hR1 hR2 hln
      refine (keep_same l M key b o ls.length c g _ cap w hpos hge hc1 hLc hcm hc2 hst.cell0 hlk (fun n => equal_at hln hR1 hR2 (by have := hag; unfold agr at this; rw [hmin] at this; exact this) n)).mono ?_
      rintro e w' ⟨rfl, m, rfl⟩
      exact .inr (.inr (.inl ⟨h0, hag, hge, ⟨g, cap, hv, rfl⟩, m, rfl⟩))

/-! ### the doors -/
/-- A value that keep hands back is a slice. -/
theorem KeepQ.slice {w : World} {l M : Nat} {sc : Value} {F : Int → Option (Value × List Int)} {n : Nat} {key : Int} {ls : List Int} {e : Ending} {w' : World} (h : KeepQ w l M sc F n key ls e w') : ∃ g c, e = .returned (.slice (some ⟨g, 0, none⟩) ls.length c) := by
  rcases h with ⟨rfl, rfl, _⟩ | ⟨_, _, g, cap, rfl, _⟩ | ⟨_, _, _, ⟨g, cap, _, rfl⟩, _⟩ | ⟨_, _, _, g, cap, rfl, _⟩
  · exact ⟨_, _, rfl⟩
  · exact ⟨_, _, rfl⟩
  · exact ⟨_, _, rfl⟩
  · exact ⟨_, _, rfl⟩

set_option maxHeartbeats 400000 in
theorem zzkeep_any {w : World} {l M : Nat} {sc : Value} {F : Int → Option (Value × List Int)} {n : Nat} (hst : LSt w l M sc F n) {key : Int} (hk : (Lit.int .i64 key).wf = true) (hn : n < maxLen) {lv : Value} {ls : List Int} (hrd : Rd w lv ls) (hbig : ls.length * 8 ≤ 140737488355328) :
    Calls Try.prog 10 #[.pointer (some ⟨l, 0, none⟩), .int .i64 key, lv] w (KeepQ w l M sc F n key ls) := by
  have hc := keep_any hst hk hn hrd hbig
  have HC : Hid (Calls Try.prog 15 #[.pointer (some ⟨l, 0, none⟩), .int .i64 key, lv] w (KeepQ w l M sc F n key ls)) := hc
  obtain ⟨a, c, rfl, _, _, _⟩ := hrd
  clear hc hst
  go_enter Try.func10, Try.ntmps10
  go_wp2_with (go_at_call 15; refine HC.out.mono ?_; intro e w' hq; obtain ⟨g, cc, he⟩ := hq.slice; subst he)
  go_ret
  assumption

set_option maxHeartbeats 400000 in
theorem newlists_any (M : Nat) (a : Option Addr) (n c : Nat) (w : World) :
    Calls Try.prog 9 #[.map (some M), .slice a n c] w fun e w' => e = .returned (.pointer (some ⟨w.heap.size, 0, none⟩)) ∧ w' = w.alloc (.cells #[.map (some M), .slice a n c] 40) := by
  go_enter Try.func9, Try.ntmps9
  go_wp2
  go_ret
  exact ⟨rfl, rfl⟩

set_option maxHeartbeats 400000 in
theorem scratch_any (l : Nat) (a : Option Addr) (n c : Nat) (w : World) (c1 : w.cell? ⟨l, 1, none⟩ = some (.slice a n c)) :
    Calls Try.prog 13 #[.pointer (some ⟨l, 0, none⟩)] w fun e w' => e = .returned (.slice a n c) ∧ w' = w := by
  go_enter Try.func13, Try.ntmps13
  go_wp2
  go_ret
  exact ⟨rfl, rfl⟩

end Go.Proofs.Qxb6617284a
