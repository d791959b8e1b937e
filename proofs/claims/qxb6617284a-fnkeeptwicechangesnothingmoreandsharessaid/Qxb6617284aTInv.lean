/-
  The law on two keeps: the maps that it fills, m and ref, each value cloned into rows of its own. No walk.
-/
import Derived.Test.Qxb6617284aIdle
namespace Go.Proofs.Qxb6617284a
set_option linter.unusedVariables false
open Go.RowKit Go.Deep Go.Maps

/-- m at block B = w.heap.size holds Fm, ref at B + 1 holds Fr; no two entries of m lie in one row; no entry of ref lies in a row of m. -/
structure TMid (w wr : World) (Fm Fr : Int → Option (Value × List Int)) (cm cr : Nat) : Prop where
  below : Below w.heap.size w wr
  size : w.heap.size + 2 ≤ wr.heap.size
  mm : MapIs wr w.heap.size (fun k => (Fm k).map Prod.fst) cm
  mr : MapIs wr (w.heap.size + 1) (fun k => (Fr k).map Prod.fst) cr
  om : ∀ k v xs, Fm k = some (v, xs) → Own wr v xs ∧ ∀ g, v.ownBlock = some g → w.heap.size + 2 ≤ g
  ofr : ∀ k v xs, Fr k = some (v, xs) → Own wr v xs ∧ ∀ g, v.ownBlock = some g → w.heap.size + 2 ≤ g
  apart : ∀ k k' v v' xs xs' g, Fm k = some (v, xs) → Fm k' = some (v', xs') → v.ownBlock = some g → v'.ownBlock = some g → k = k'
  far : ∀ k v xs, Fr k = some (v, xs) → Far Fm v

theorem tmid_start (w : World) : TMid w ((w.alloc (.map #[] 0)).alloc (.map #[] 0)) (fun _ => none) (fun _ => none) 0 0 := by
  have hs : (w.alloc (.map #[] 0)).heap.size = w.heap.size + 1 := by simp
  refine ⟨((Below.refl _ _).alloc (Nat.le_refl _) _).alloc (by omega) _, by simp, ?_, ?_, fun k v xs h => (by cases h), fun k v xs h => (by cases h), fun k k' v v' xs xs' g h => (by cases h), fun k v xs h => (by cases h)⟩
  · exact (mapIs_made w).kept (Below.heap_alloc _ _ _ (by omega))
  · have := mapIs_made (w.alloc (.map #[] 0))
    rw [hs] at this
    exact this

theorem TMid.drew {w wr : World} {Fm Fr : Int → Option (Value × List Int)} {cm cr : Nat} (h : TMid w wr Fm Fr cm cr) (n : Nat) : TMid w (wr.drewN n) Fm Fr cm cr :=
  ⟨⟨h.below.os, h.below.tape, h.below.output, h.below.size, h.below.block⟩, h.size, h.mm, h.mr, h.om, h.ofr, h.apart, h.far⟩

/-- .. while nothing old turns. -/
theorem TMid.later {w wr w1 : World} {Fm Fr : Int → Option (Value × List Int)} {cm cr : Nat} (h : TMid w wr Fm Fr cm cr) (hb : Below wr.heap.size wr w1) : TMid w w1 Fm Fr cm cr := by
  have hsz := h.below.size
  have h2 := h.size
  exact ⟨h.below.trans (hb.mono hsz), by have := hb.size; omega, h.mm.kept (hb.block _ (by omega)), h.mr.kept (hb.block _ (by omega)), fun k v xs hF => ⟨(h.om k v xs hF).1.later hb, (h.om k v xs hF).2⟩, fun k v xs hF => ⟨(h.ofr k v xs hF).1.later hb, (h.ofr k v xs hF).2⟩, h.apart, h.far⟩

theorem tmid_m {w wr w1 : World} {Fm Fr : Int → Option (Value × List Int)} {cm cr : Nat} (h : TMid w wr Fm Fr cm cr) (hc : cm < 65536) {k : Int} (hk : (Lit.int .i64 k).wf = true) {v : Value} {xs : List Int} (hb : Below wr.heap.size wr w1) (ho : Own w1 v xs) (hn : ∀ g, v.ownBlock = some g → wr.heap.size ≤ g) :
    ∃ w2, (Instr.mapUpdate 26 (.map (some w.heap.size)) (.int .i64 k) v).run Try.prog w1 = .ok () w2 ∧ Below w.heap.size w w2 ∧ TMid w w2 (upd Fm k (v, xs)) Fr (if (Fm k).isSome then cm else cm + 1) cr := by
  have h1 := h.later hb
  have hs1 := h1.size
  have hs0 := h.size
  obtain ⟨w2, r2, m2, g2, s2⟩ := h1.mm.store Try.underlying26 (by simp only [maxLen]; omega) hk v
  have hblk : ∀ g, g < w1.heap.size → g ≠ w.heap.size → w2.heap[g]? = w1.heap[g]? := fun g h1 h2 => g2.block g h1 (by simpa using h2)
  have keepOwn : ∀ v' xs', Own w1 v' xs' → (∀ g, v'.ownBlock = some g → w.heap.size + 2 ≤ g) → Own w2 v' xs' := fun v' xs' ho' hg' => ho'.kept (fun g hg => hblk g (ho'.lt hg) (by have := hg' g hg; omega))
  have hvB : ∀ g, v.ownBlock = some g → w.heap.size + 2 ≤ g := fun g hg => by have := hn g hg; omega
  have hbw : Below w.heap.size w w2 := h1.below.grown g2 (by omega) (by intro k hk; cases hk; exact Nat.le_refl _)
  refine ⟨w2, r2, hbw, hbw, by omega, ?_, h1.mr.kept (hblk _ (by omega) (by omega)), ?_, fun k' v' xs' hF => ⟨keepOwn _ _ (h1.ofr k' v' xs' hF).1 (h1.ofr k' v' xs' hF).2, (h1.ofr k' v' xs' hF).2⟩, ?_, ?_⟩
  · have e : (if ((Fm k).map Prod.fst).isSome = true then cm else cm + 1) = if (Fm k).isSome then cm else cm + 1 := by simp
    rw [e] at m2
    refine m2.congr (fun k' hk' => ?_)
    by_cases hkk : k' = k
    · subst hkk; simp [upd]
    · simp [upd, hkk]
  · intro k' v' xs' hF
    by_cases hkk : k' = k
    · subst hkk
      rw [upd_same] at hF
      simp only [Option.some.injEq, Prod.mk.injEq] at hF
      obtain ⟨rfl, rfl⟩ := hF
      exact ⟨keepOwn _ _ ho hvB, hvB⟩
    · rw [upd_other _ _ hkk] at hF
      exact ⟨keepOwn _ _ (h1.om k' v' xs' hF).1 (h1.om k' v' xs' hF).2, (h1.om k' v' xs' hF).2⟩
  · intro k1 k2 v1 v2 xs1 xs2 g hF1 hF2 hg1 hg2
    have old : ∀ k' v' xs', Fm k' = some (v', xs') → v'.ownBlock = some g → g < wr.heap.size := fun k' v' xs' hF hg => (h.om k' v' xs' hF).1.lt hg
    by_cases hk1 : k1 = k
    · by_cases hk2 : k2 = k
      · rw [hk1, hk2]
      · rw [upd_other _ _ hk2] at hF2
        rw [hk1, upd_same] at hF1
        simp only [Option.some.injEq, Prod.mk.injEq] at hF1
        obtain ⟨rfl, _⟩ := hF1
        have := hn g hg1
        have := old k2 v2 xs2 hF2 hg2
        omega
    · rw [upd_other _ _ hk1] at hF1
      by_cases hk2 : k2 = k
      · rw [hk2, upd_same] at hF2
        simp only [Option.some.injEq, Prod.mk.injEq] at hF2
        obtain ⟨rfl, _⟩ := hF2
        have := hn g hg2
        have := old k1 v1 xs1 hF1 hg1
        omega
      · rw [upd_other _ _ hk2] at hF2
        exact h.apart k1 k2 v1 v2 xs1 xs2 g hF1 hF2 hg1 hg2
  · intro k' v' xs' hF g hg k1 v1 xs1 hF1 hg1
    by_cases hk1 : k1 = k
    · rw [hk1, upd_same] at hF1
      simp only [Option.some.injEq, Prod.mk.injEq] at hF1
      obtain ⟨rfl, _⟩ := hF1
      have := hn g hg1
      have := (h.ofr k' v' xs' hF).1.lt hg
      omega
    · rw [upd_other _ _ hk1] at hF1
      exact h.far k' v' xs' hF g hg k1 v1 xs1 hF1 hg1

theorem tmid_r {w wr w1 : World} {Fm Fr : Int → Option (Value × List Int)} {cm cr : Nat} (h : TMid w wr Fm Fr cm cr) (hc : cr < 65536) {k : Int} (hk : (Lit.int .i64 k).wf = true) {v : Value} {xs : List Int} (hb : Below wr.heap.size wr w1) (ho : Own w1 v xs) (hn : ∀ g, v.ownBlock = some g → wr.heap.size ≤ g) :
    ∃ w2, (Instr.mapUpdate 26 (.map (some (w.heap.size + 1))) (.int .i64 k) v).run Try.prog w1 = .ok () w2 ∧ TMid w w2 Fm (upd Fr k (v, xs)) cm (if (Fr k).isSome then cr else cr + 1) := by
  have h1 := h.later hb
  have hs1 := h1.size
  have hs0 := h.size
  obtain ⟨w2, r2, m2, g2, s2⟩ := h1.mr.store Try.underlying26 (by simp only [maxLen]; omega) hk v
  have hblk : ∀ g, g < w1.heap.size → g ≠ w.heap.size + 1 → w2.heap[g]? = w1.heap[g]? := fun g h1 h2 => g2.block g h1 (by simpa using h2)
  have keepOwn : ∀ v' xs', Own w1 v' xs' → (∀ g, v'.ownBlock = some g → w.heap.size + 2 ≤ g) → Own w2 v' xs' := fun v' xs' ho' hg' => ho'.kept (fun g hg => hblk g (ho'.lt hg) (by have := hg' g hg; omega))
  have hvB : ∀ g, v.ownBlock = some g → w.heap.size + 2 ≤ g := fun g hg => by have := hn g hg; omega
  have hbw : Below w.heap.size w w2 := h1.below.grown g2 (by omega) (by intro k hk; cases hk; omega)
  refine ⟨w2, r2, hbw, by omega, h1.mm.kept (hblk _ (by omega) (by omega)), ?_, fun k' v' xs' hF => ⟨keepOwn _ _ (h1.om k' v' xs' hF).1 (h1.om k' v' xs' hF).2, (h1.om k' v' xs' hF).2⟩, ?_, h.apart, ?_⟩
  · have e : (if ((Fr k).map Prod.fst).isSome = true then cr else cr + 1) = if (Fr k).isSome then cr else cr + 1 := by simp
    rw [e] at m2
    refine m2.congr (fun k' hk' => ?_)
    by_cases hkk : k' = k
    · subst hkk; simp [upd]
    · simp [upd, hkk]
  · intro k' v' xs' hF
    by_cases hkk : k' = k
    · subst hkk
      rw [upd_same] at hF
      simp only [Option.some.injEq, Prod.mk.injEq] at hF
      obtain ⟨rfl, rfl⟩ := hF
      exact ⟨keepOwn _ _ ho hvB, hvB⟩
    · rw [upd_other _ _ hkk] at hF
      exact ⟨keepOwn _ _ (h1.ofr k' v' xs' hF).1 (h1.ofr k' v' xs' hF).2, (h1.ofr k' v' xs' hF).2⟩
  · intro k' v' xs' hF g hg k1 v1 xs1 hF1 hg1
    by_cases hkk : k' = k
    · rw [hkk, upd_same] at hF
      simp only [Option.some.injEq, Prod.mk.injEq] at hF
      obtain ⟨rfl, _⟩ := hF
      have := hn g hg
      have := (h.om k1 v1 xs1 hF1).1.lt hg1
      omega
    · rw [upd_other _ _ hkk] at hF
      exact h.far k' v' xs' hF g hg k1 v1 xs1 hF1 hg1

/-- At the head of round j. -/
def TInv (w : World) (j : Nat) (wr : World) : Prop := ∃ Fm Fr c, c ≤ j ∧ TMid w wr Fm Fr c c ∧ ∀ k, (Fm k).map Prod.snd = (Fr k).map Prod.snd

/-- The round's two clones and stores, each as the walk meets it. -/
theorem tround {w wr : World} {j : Nat} (h : TInv w j wr) (hj : j < 65536) {k : Int} (hk : (Lit.int .i64 k).wf = true) {a : Option Addr} {n c : Nat} {xs : List Int} (hr : Rd w (.slice a n c) xs) (hm : xs.length * 8 ≤ 140737488355328) :
    Calls Try.prog 7 #[.slice a n c] wr.drew fun e w1 => ∃ a1 c1, e = .returned (.slice a1 xs.length c1) ∧ Below w.heap.size w w1 ∧ ∃ w2, (Instr.mapUpdate 26 (.map (some w.heap.size)) (.int .i64 k) (.slice a1 xs.length c1)).run Try.prog w1 = .ok () w2 ∧ Below w.heap.size w w2 ∧
      Calls Try.prog 7 #[.slice a n c] w2.drew fun e w3 => ∃ a3 c3, e = .returned (.slice a3 xs.length c3) ∧ Below w.heap.size w w3 ∧ ∃ w4, (Instr.mapUpdate 26 (.map (some (w.heap.size + 1))) (.int .i64 k) (.slice a3 xs.length c3)).run Try.prog w3 = .ok () w4 ∧ TInv w (j + 1) w4 := by
  obtain ⟨Fm, Fr, cc, hc, hT, hpl⟩ := h
  have hT1 := hT.drew 1
  have hcl : ∀ W, Below w.heap.size w W → Calls Try.prog 7 #[.slice a n c] W (CloneQ W a.isNone xs) := fun W hW => clone_any (hr.later hW) hm
  refine (hcl (wr.drewN 1) hT1.below).mono ?_
  rintro e w1 ⟨a1, c1, rfl, o1, b1, n1, _⟩
  obtain ⟨w2, r2, hb2, hT2⟩ := tmid_m hT1 (by omega) hk b1 o1 n1
  refine ⟨a1, c1, rfl, (hT1.later b1).below, w2, r2, hb2, ?_⟩
  have hT3 := hT2.drew 1
  refine (hcl (w2.drewN 1) hT3.below).mono ?_
  rintro e w3 ⟨a3, c3, rfl, o3, b3, n3, _⟩
  obtain ⟨w4, r4, hT4⟩ := tmid_r hT3 (by omega) hk b3 o3 n3
  refine ⟨a3, c3, rfl, (hT3.later b3).below, w4, r4, upd Fm k (.slice a1 xs.length c1, xs), upd Fr k (.slice a3 xs.length c3, xs), if (Fm k).isSome then cc else cc + 1, by split <;> omega, ?_, ?_⟩
  · have e : (Fr k).isSome = (Fm k).isSome := by
      have := congrArg Option.isSome (hpl k)
      simpa using this.symm
    rw [e] at hT4
    exact hT4
  · intro k'
    by_cases hkk : k' = k
    · subst hkk; simp [upd]
    · simp [upd, hkk, hpl]

end Go.Proofs.Qxb6617284a
