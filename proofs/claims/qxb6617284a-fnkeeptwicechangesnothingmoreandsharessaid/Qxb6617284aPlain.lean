/-
  THE PLAIN LAW of the script: what the map holds after i keeps, and what the law's own book-keeping says of it. No Go in sight.
-/
import Derived.Test.Qxb6617284aSame
import Derived.Test.Qxb6617284aMaps
namespace Go.Proofs.Qxb6617284a
set_option linter.unusedVariables false

section
variable (K : Nat → Int) (LL : Nat → List Int)

/-- What the map holds after i keeps. -/
def st : Nat → Int → Option (List Int)
  | 0, _ => none
  | i + 1, k => if LL i = [] ∨ k ≠ K i then st i k else if agr (LL i) ((st i k).getD []) = true ∧ ((st i k).getD []).length < (LL i).length then some (LL i) else st i k
/-- The first step that kept something under k. -/
def fst' : Nat → Int → Option Nat
  | 0, _ => none
  | i + 1, k => if LL i = [] ∨ k ≠ K i then fst' i k else if (fst' i k).isSome then fst' i k else some i
/-- The first step with the longest list of k. -/
def lng : Nat → Int → Option Nat
  | 0, _ => none
  | i + 1, k => if LL i = [] ∨ k ≠ K i then lng i k else match lng i k with
    | none => some i
    | some j => if (LL j).length < (LL i).length then some i else some j
/-- How many keys have an entry after i keeps. -/
def cnt : Nat → Nat
  | 0 => 0
  | i + 1 => if LL i = [] then cnt i else if (st K LL i (K i)).isSome then cnt i else cnt i + 1

variable {K LL}

theorem st_pos : ∀ (i : Nat) (k : Int) (x : List Int), st K LL i k = some x → x ≠ [] := by
  intro i
  induction i with
  | zero => intro k x h; cases h
  | succ i ih =>
    intro k x h
    unfold st at h
    split at h
    · exact ih k x h
    · rename_i hc
      split at h
      · rename_i hd
        cases h
        intro e
        exact hc (.inl e)
      · exact ih k x h

theorem agr_refl (x : List Int) : agr x x = true := by simp [agr]

theorem agr_short {x y : List Int} (h : x.length ≤ y.length) : agr x y = decide (x = y.take x.length) := by
  unfold agr
  rw [Nat.min_eq_left h, List.take_of_length_le (Nat.le_refl _)]

theorem agr_long {x y : List Int} (h : y.length ≤ x.length) : agr x y = decide (x.take y.length = y) := by
  unfold agr
  rw [Nat.min_eq_right h, List.take_of_length_le (Nat.le_refl y.length)]

theorem agr_comm (x y : List Int) : agr x y = agr y x := by
  unfold agr
  rw [Nat.min_comm]
  exact decide_eq_decide.2 eq_comm

theorem st_some_of : ∀ i k, (st K LL i k).isSome = (fst' K LL i k).isSome := by
  intro i
  induction i with
  | zero => intro k; rfl
  | succ i ih =>
    intro k
    unfold st fst'
    split
    · exact ih k
    · rename_i hc
      have hn : LL i ≠ [] := fun e => hc (.inl e)
      cases hf : fst' K LL i k with
      | none =>
        have hs : st K LL i k = none := by
          have := ih k
          rw [hf] at this
          simpa using this
        rw [hs]
        have : 0 < (LL i).length := List.length_pos_iff.2 hn
        simp [agr_nil_right, this]
      | some j =>
        have hs : (st K LL i k).isSome = true := by rw [ih k, hf]; rfl
        split
        · rfl
        · simpa using hs

theorem lng_some_of : ∀ i k, (lng K LL i k).isSome = (fst' K LL i k).isSome := by
  intro i
  induction i with
  | zero => intro k; rfl
  | succ i ih =>
    intro k
    unfold lng fst'
    split
    · exact ih k
    · have := ih k
      cases hl : lng K LL i k with
      | none => rw [hl] at this; simp at this; simp [this]
      | some j =>
        rw [hl] at this
        have h2 : (fst' K LL i k).isSome = true := by rw [← this]; rfl
        rw [if_pos h2, h2]
        dsimp only
        split <;> rfl

/-- The first step: where it lies; what it kept is the beginning of what the map holds. -/
theorem fst_law : ∀ i k f, fst' K LL i k = some f → f < i ∧ K f = k ∧ LL f ≠ [] ∧ ∀ x, st K LL i k = some x → (LL f).length ≤ x.length ∧ agr (LL f) x = true := by
  intro i
  induction i with
  | zero => intro k f h; cases h
  | succ i ih =>
    intro k f h
    unfold fst' at h
    unfold st
    split at h
    · rename_i hc
      rw [if_pos hc]
      obtain ⟨h1, h2, h3, h4⟩ := ih k f h
      exact ⟨by omega, h2, h3, h4⟩
    · rename_i hc
      rw [if_neg hc]
      have hn : LL i ≠ [] := fun e => hc (.inl e)
      have hk : k = K i := Classical.byContradiction (fun e => hc (.inr e))
      split at h
      · rename_i hs
        obtain ⟨h1, h2, h3, h4⟩ := ih k f h
        refine ⟨by omega, h2, h3, fun x hx => ?_⟩
        split at hx
        · rename_i hd
          simp only [Option.some.injEq] at hx
          subst hx
          have hso : (st K LL i k).isSome = true := by rw [st_some_of]; exact hs
          obtain ⟨y, hy⟩ := Option.isSome_iff_exists.1 hso
          obtain ⟨q1, q2⟩ := h4 y hy
          rw [hy] at hd
          simp only [Option.getD_some] at hd
          obtain ⟨d1, d2⟩ := hd
          refine ⟨by omega, ?_⟩
          rw [agr_short (by omega)] at q2 ⊢
          rw [agr_long (by omega)] at d1
          have e1 := of_decide_eq_true q2
          have e2 := of_decide_eq_true d1
          refine decide_eq_true ?_
          rw [e1, ← e2, List.take_take]
          simp only [List.length_take]
          congr 1
          omega
        · exact h4 x hx
      · rename_i hs
        cases h
        refine ⟨by omega, hk.symm, hn, fun x hx => ?_⟩
        have hs2 : st K LL i k = none := by
          have := st_some_of (K := K) (LL := LL) i k
          simpa [hs] using this
        rw [hs2] at hx
        have : 0 < (LL i).length := List.length_pos_iff.2 hn
        simp [agr_nil_right, this] at hx
        subst hx
        exact ⟨Nat.le_refl _, agr_refl _⟩

/-- The step of the longest list: where it lies; no list of its key is longer. -/
theorem lng_law : ∀ i k j, lng K LL i k = some j → j < i ∧ K j = k ∧ LL j ≠ [] ∧ ∀ t, t < i → K t = k → (LL t).length ≤ (LL j).length := by
  intro i
  induction i with
  | zero => intro k j h; cases h
  | succ i ih =>
    intro k j h
    unfold lng at h
    split at h
    · rename_i hc
      obtain ⟨h1, h2, h3, h4⟩ := ih k j h
      refine ⟨by omega, h2, h3, fun t ht hk => ?_⟩
      by_cases e : t = i
      · subst e
        rcases hc with hc | hc
        · rw [hc]; simp
        · exact absurd hk.symm hc
      · exact h4 t (by omega) hk
    · rename_i hc
      have hn : LL i ≠ [] := fun e => hc (.inl e)
      have hk : k = K i := Classical.byContradiction (fun e => hc (.inr e))
      cases hl : lng K LL i k with
      | none =>
        rw [hl] at h
        simp only [Option.some.injEq] at h
        subst h
        refine ⟨by omega, hk.symm, hn, fun t ht hkt => ?_⟩
        by_cases e : t = i
        · subst e; exact Nat.le_refl _
        · -- no earlier list of k is not empty
          have hf : fst' K LL i k = none := by
            have := lng_some_of (K := K) (LL := LL) i k
            rw [hl] at this
            simpa using this.symm
          have : LL t = [] := by
            refine Classical.byContradiction (fun hne => ?_)
            have : ∀ m, t < m → m ≤ i → (fst' K LL m k).isSome = true := by
              intro m
              induction m with
              | zero => intro h; omega
              | succ m ihm =>
                intro h1 h2
                unfold fst'
                by_cases em : t = m
                · subst em
                  rw [if_neg (by intro h; rcases h with h | h; exact hne h; exact h hkt.symm)]
                  split
                  · assumption
                  · rfl
                · have := ihm (by omega) (by omega)
                  split
                  · exact this
                  · first | exact this | (split; exact this; rfl)
            have := this i (by omega) (Nat.le_refl _)
            rw [hf] at this
            cases this
          rw [this]; simp
      | some j' =>
        rw [hl] at h
        obtain ⟨h1, h2, h3, h4⟩ := ih k j' hl
        dsimp only at h
        split at h
        · simp only [Option.some.injEq] at h
          subst h
          refine ⟨by omega, hk.symm, hn, fun t ht hkt => ?_⟩
          by_cases e : t = i
          · subst e; exact Nat.le_refl _
          · have := h4 t (by omega) hkt; omega
        · simp only [Option.some.injEq] at h
          subst h
          refine ⟨by omega, h2, h3, fun t ht hkt => ?_⟩
          by_cases e : t = i
          · subst e; omega
          · exact h4 t (by omega) hkt

/-- The entry is one of its key's lists. -/
theorem st_one : ∀ i k x, st K LL i k = some x → ∃ t, t < i ∧ K t = k ∧ LL t = x := by
  intro i
  induction i with
  | zero => intro k x h; cases h
  | succ i ih =>
    intro k x h
    unfold st at h
    split at h
    · obtain ⟨t, h1, h2⟩ := ih k x h; exact ⟨t, by omega, h2⟩
    · rename_i hc
      split at h
      · cases h
        exact ⟨i, by omega, (Classical.byContradiction (fun e => hc (.inr (Ne.symm e)))), rfl⟩
      · obtain ⟨t, h1, h2⟩ := ih k x h; exact ⟨t, by omega, h2⟩

/-- Where all lists of a key agree with a longest one, the entry is as long as each list met so far. -/
theorem st_long {N : Nat} {k : Int} {j : Nat} (hj : ∀ t, t < N → K t = k → LL t ≠ [] → (LL t).length ≤ (LL j).length ∧ agr (LL t) (LL j) = true) :
    ∀ i, i ≤ N → (∀ x, st K LL i k = some x → x = (LL j).take x.length) ∧ ∀ t, t < i → K t = k → LL t ≠ [] → ∃ x, st K LL i k = some x ∧ (LL t).length ≤ x.length := by
  intro i
  induction i with
  | zero => intro _; exact ⟨fun x h => (by cases h), fun t h => by omega⟩
  | succ i ih =>
    intro hi
    obtain ⟨h1, h2⟩ := ih (by omega)
    by_cases hc : LL i = [] ∨ k ≠ K i
    · have e : st K LL (i + 1) k = st K LL i k := by rw [st, if_pos hc]
      rw [e]
      refine ⟨h1, fun t ht hk hn => ?_⟩
      by_cases et : t = i
      · subst et
        rcases hc with hc | hc
        · exact absurd hc hn
        · exact absurd hk.symm hc
      · exact h2 t (by omega) hk hn
    · have hn : LL i ≠ [] := fun e => hc (.inl e)
      have hk : k = K i := Classical.byContradiction (fun e => hc (.inr e))
      obtain ⟨g1, g2⟩ := hj i (by omega) hk.symm hn
      have g3 : LL i = (LL j).take (LL i).length := by rw [agr_short g1] at g2; exact of_decide_eq_true g2
      -- whatever is held agrees with this list
      have hag : ∀ y, (y = [] ∨ st K LL i k = some y) → agr (LL i) y = true := by
        intro y hy
        rcases hy with rfl | hy
        · exact agr_nil_right _
        · have hy2 := h1 y hy
          rcases Nat.le_total (LL i).length y.length with hle | hle
          · rw [agr_short hle]
            refine decide_eq_true ?_
            rw [hy2, List.take_take, Nat.min_eq_left hle]
            exact g3
          · rw [agr_long hle]
            refine decide_eq_true ?_
            conv => rhs; rw [hy2]
            rw [g3, List.take_take, Nat.min_eq_left hle]
      by_cases hgrow : ((st K LL i k).getD []).length < (LL i).length
      · have e : st K LL (i + 1) k = some (LL i) := by
          have hag' : agr (LL i) ((st K LL i k).getD []) = true := by
            apply hag
            cases hs : st K LL i k with
            | none => exact .inl rfl
            | some y => exact .inr rfl
          rw [st, if_neg hc, if_pos ⟨hag', hgrow⟩]
        rw [e]
        refine ⟨fun x hx => by cases hx; exact g3, fun t ht hkt hnt => ⟨LL i, rfl, ?_⟩⟩
        by_cases et : t = i
        · subst et; exact Nat.le_refl _
        · obtain ⟨x, hx, hle⟩ := h2 t (by omega) hkt hnt
          rw [hx] at hgrow
          simp at hgrow
          omega
      · have e : st K LL (i + 1) k = st K LL i k := by
          rw [st, if_neg hc, if_neg (fun h => hgrow h.2)]
        rw [e]
        refine ⟨h1, fun t ht hkt hnt => ?_⟩
        by_cases et : t = i
        · subst et
          cases hs : st K LL t k with
          | none =>
            rw [hs] at hgrow
            have : 0 < (LL t).length := List.length_pos_iff.2 hn
            simp at hgrow
            exact absurd hgrow hn
          | some y => rw [hs] at hgrow; simp at hgrow; exact ⟨y, rfl, hgrow⟩
        · exact h2 t (by omega) hkt hnt

/-- .. so at the end it is that longest list. -/
theorem st_is_long {N : Nat} {k : Int} {j : Nat} (hl : lng K LL N k = some j) (hj : ∀ t, t < N → K t = k → LL t ≠ [] → agr (LL t) (LL j) = true) : st K LL N k = some (LL j) := by
  obtain ⟨l1, l2, l3, l4⟩ := lng_law N k j hl
  obtain ⟨h1, h2⟩ := st_long (N := N) (k := k) (j := j) (fun t ht hk hn => ⟨l4 t ht hk, hj t ht hk hn⟩) N (Nat.le_refl _)
  obtain ⟨x, hx, hle⟩ := h2 j l1 l2 l3
  have := h1 x hx
  rw [hx]
  rw [List.take_of_length_le hle] at this
  rw [this]

theorem cnt_le : ∀ i, cnt K LL i ≤ i := by
  intro i
  induction i with
  | zero => exact Nat.le_refl _
  | succ i ih =>
    unfold cnt
    split
    · omega
    · split <;> omega

end
end Go.Proofs.Qxb6617284a
