/-
  Plain facts on runs of decimal digits: their value, their canonical form, how they compare; what strconv's plain function makes of them. No Go function is walked here.
-/
import Derived.Lib.ParseIntBCases
namespace Go.Proofs.Qxb6617284aDoor
set_option linter.unusedVariables false

/-- The value of a run of digits, begun at a. -/
def dvF (a : Nat) (l : List UInt8) : Nat := l.foldl (fun a c => a * 10 + (c.toNat - 48)) a
def dv (l : List UInt8) : Nat := dvF 0 l
def Dig (l : List UInt8) : Prop := ∀ c ∈ l, 48 ≤ c.toNat ∧ c.toNat ≤ 57

theorem dvF_nil (a : Nat) : dvF a [] = a := rfl
theorem dvF_cons (a : Nat) (c : UInt8) (l : List UInt8) : dvF a (c :: l) = dvF (a * 10 + (c.toNat - 48)) l := by simp only [dvF, List.foldl_cons]
theorem dvF_eq (l : List UInt8) : ∀ a, dvF a l = a * 10 ^ l.length + dv l := by
  induction l with
  | nil => intro a; simp [dvF, dv]
  | cons c l ih =>
    intro a
    have e : dv (c :: l) = dvF (0 * 10 + (c.toNat - 48)) l := dvF_cons 0 c l
    rw [e, dvF_cons, ih, ih (0 * 10 + (c.toNat - 48)), List.length_cons, Nat.pow_succ, Nat.zero_mul, Nat.zero_add, Nat.add_mul, Nat.mul_assoc, Nat.mul_comm 10, Nat.add_assoc]
theorem dv_cons (c : UInt8) (l : List UInt8) : dv (c :: l) = (c.toNat - 48) * 10 ^ l.length + dv l := by
  unfold dv
  rw [dvF_cons, dvF_eq]
  simp [dv]
theorem dv_append (p q : List UInt8) : dv (p ++ q) = dv p * 10 ^ q.length + dv q := by
  have : dv (p ++ q) = dvF (dv p) q := by simp [dv, dvF, List.foldl_append]
  rw [this, dvF_eq]
theorem dv_snoc (p : List UInt8) (c : UInt8) : dv (p ++ [c]) = dv p * 10 + (c.toNat - 48) := by
  rw [dv_append, dv_cons]; simp [dv, dvF]

theorem Dig.tail {c : UInt8} {l : List UInt8} (h : Dig (c :: l)) : Dig l := fun x hx => h x (List.mem_cons_of_mem _ hx)
theorem Dig.head {c : UInt8} {l : List UInt8} (h : Dig (c :: l)) : 48 ≤ c.toNat ∧ c.toNat ≤ 57 := h c (List.mem_cons_self ..)

theorem dv_lt : ∀ {l : List UInt8}, Dig l → dv l < 10 ^ l.length
  | [], _ => by simp [dv, dvF]
  | c :: l, h => by
    have ih := dv_lt h.tail
    have hc := h.head
    rw [dv_cons, List.length_cons, Nat.pow_succ]
    have : (c.toNat - 48) * 10 ^ l.length ≤ 9 * 10 ^ l.length := Nat.mul_le_mul_right _ (by omega)
    omega

/-! ### the canonical form -/
def canon : List UInt8 → List UInt8
  | [] => []
  | [c] => [c]
  | c :: d :: r => if c.toNat = 48 then canon (d :: r) else c :: d :: r

/-- No leading nought, or one digit. -/
def Cn (d : List UInt8) : Prop := d ≠ [] ∧ (1 < d.length → ∀ c r, d = c :: r → c.toNat ≠ 48)

theorem canon_dv : ∀ (l : List UInt8), dv (canon l) = dv l
  | [] => rfl
  | [c] => rfl
  | c :: d :: r => by
    unfold canon
    split
    · rename_i h
      rw [canon_dv (d :: r), dv_cons c, h]
      simp
    · rfl
theorem canon_ne : ∀ {l : List UInt8}, l ≠ [] → canon l ≠ []
  | [], h => absurd rfl h
  | [c], _ => by simp [canon]
  | c :: d :: r, _ => by
    unfold canon
    split
    · exact canon_ne (by simp)
    · simp
theorem canon_cn : ∀ {l : List UInt8}, l ≠ [] → Cn (canon l)
  | [], h => absurd rfl h
  | [c], _ => by simp [canon, Cn]
  | c :: d :: r, _ => by
    unfold canon
    split
    · exact canon_cn (by simp)
    · rename_i h
      refine ⟨by simp, fun _ c' r' he => ?_⟩
      cases he
      exact h
theorem canon_dig : ∀ {l : List UInt8}, Dig l → Dig (canon l)
  | [], h => h
  | [c], h => h
  | c :: d :: r, h => by
    unfold canon
    split
    · exact canon_dig h.tail
    · exact h

theorem canon_skip {l : List UInt8} {k : Nat} (h1 : k + 1 < l.length) (h2 : (l[k]?.getD 0).toNat = 48) : canon (l.drop k) = canon (l.drop (k + 1)) := by
  rw [List.drop_eq_getElem_cons (by omega), List.drop_eq_getElem_cons h1]
  rw [List.getElem?_eq_getElem (by omega)] at h2
  simp only [Option.getD_some] at h2
  rw [canon, if_pos h2]
theorem canon_stop {l : List UInt8} {k : Nat} (h : l.length ≤ k + 1 ∨ (l[k]?.getD 0).toNat ≠ 48) : canon (l.drop k) = l.drop k := by
  by_cases h1 : k + 1 < l.length
  · have h2 : (l[k]?.getD 0).toNat ≠ 48 := by
      rcases h with h | h
      · omega
      · exact h
    rw [List.drop_eq_getElem_cons (by omega), List.drop_eq_getElem_cons h1]
    rw [List.getElem?_eq_getElem (by omega)] at h2
    simp only [Option.getD_some] at h2
    rw [canon, if_neg h2]
  · by_cases h2 : k < l.length
    · rw [List.drop_eq_getElem_cons h2, List.drop_of_length_le (by omega)]
      rfl
    · rw [List.drop_of_length_le (by omega)]
      rfl

/-! ### comparison -/
theorem Cn.le_dv {d : List UInt8} (h : Cn d) (hd : Dig d) (h1 : 1 < d.length) : 10 ^ (d.length - 1) ≤ dv d := by
  obtain ⟨h0, hc⟩ := h
  match d, h0, hc, hd, h1 with
  | c :: r, _, hc, hd, h1 =>
    have := hc h1 c r rfl
    have hh := hd.head
    rw [dv_cons, List.length_cons, Nat.add_sub_cancel]
    have : 1 * 10 ^ r.length ≤ (c.toNat - 48) * 10 ^ r.length := Nat.mul_le_mul_right _ (by omega)
    omega

theorem short_lt {d s : List UInt8} (hs : Cn s) (hds : Dig s) (hdd : Dig d) (hd : d ≠ []) (h : d.length < s.length) : dv d < dv s := by
  have hp : 0 < d.length := List.length_pos_iff.2 hd
  have h1 := dv_lt hdd
  have h2 := hs.le_dv hds (by omega)
  have h3 : 10 ^ d.length ≤ 10 ^ (s.length - 1) := Nat.pow_le_pow_right (by omega) (by omega)
  omega

theorem lex_lt {d s : List UInt8} {k : Nat} (hdd : Dig d) (hds : Dig s) (hl : d.length = s.length) (hk : k < d.length) (ht : d.take k = s.take k) (h : (d[k]?.getD 0).toNat < (s[k]?.getD 0).toNat) : dv d < dv s := by
  have hks : k < s.length := by omega
  rw [List.getElem?_eq_getElem hk, List.getElem?_eq_getElem hks] at h
  simp only [Option.getD_some] at h
  have e1 : dv d = dv (d.take k) * 10 ^ (d.drop k).length + dv (d.drop k) := by rw [← dv_append, List.take_append_drop]
  have e2 : dv s = dv (s.take k) * 10 ^ (s.drop k).length + dv (s.drop k) := by rw [← dv_append, List.take_append_drop]
  have e3 : (s.drop k).length = (d.drop k).length := by simp [hl]
  rw [e1, e2, e3, ht]
  rw [List.drop_eq_getElem_cons hk, List.drop_eq_getElem_cons hks, dv_cons, dv_cons]
  have e4 : (s.drop (k + 1)).length = (d.drop (k + 1)).length := by simp [hl]
  rw [e4]
  have hd2 : Dig (d.drop (k + 1)) := fun c hc => hdd c (List.mem_of_mem_drop hc)
  have h5 := dv_lt hd2
  have hd48 := (hdd _ (List.getElem_mem hk)).1
  have h6 : ((d[k].toNat - 48) + 1) * 10 ^ (d.drop (k + 1)).length ≤ (s[k].toNat - 48) * 10 ^ (d.drop (k + 1)).length := Nat.mul_le_mul_right _ (by omega)
  rw [Nat.add_mul, Nat.one_mul] at h6
  omega

/-- What the comparing loop answers where it stops, k the first place where they part. -/
theorem part_answer {d s : List UInt8} {k : Nat} (hdd : Dig d) (hds : Dig s) (hl : d.length = s.length) (hk : k < d.length) (ht : d.take k = s.take k) (h : (d[k]?.getD 0).toNat ≠ (s[k]?.getD 0).toNat) :
    decide ((d[k]?.getD 0).toNat < (s[k]?.getD 0).toNat) = decide (dv d ≤ dv s) := by
  rcases Nat.lt_or_gt_of_ne h with h1 | h1
  · have := lex_lt hdd hds hl hk ht h1
    rw [decide_eq_true h1, decide_eq_true (by omega)]
  · have := lex_lt hds hdd hl.symm (by omega) ht.symm h1
    rw [decide_eq_false (by omega), decide_eq_false (by omega)]

theorem lens_answer {d s : List UInt8} (hd : Cn d) (hs : Cn s) (hdd : Dig d) (hds : Dig s) (hl : d.length ≠ s.length) : decide (d.length < s.length) = decide (dv d ≤ dv s) := by
  rcases Nat.lt_or_gt_of_ne hl with h1 | h1
  · have := short_lt hs hds hdd hd.1 h1
    rw [decide_eq_true h1, decide_eq_true (by omega)]
  · have := short_lt hd hdd hds hs.1 h1
    rw [decide_eq_false (by omega), decide_eq_false (by omega)]

theorem dv_inj {d s : List UInt8} (hd : Cn d) (hs : Cn s) (hdd : Dig d) (hds : Dig s) : d = s ↔ dv d = dv s := by
  constructor
  · intro h; rw [h]
  · intro h
    have hl : d.length = s.length := by
      rcases Nat.lt_trichotomy d.length s.length with h1 | h1 | h1
      · have := short_lt hs hds hdd hd.1 h1; omega
      · exact h1
      · have := short_lt hd hdd hds hs.1 h1; omega
    have key : ∀ k, k ≤ d.length → d.take k = s.take k := by
      intro k
      induction k with
      | zero => intro _; simp
      | succ k ih =>
        intro hk
        have ht := ih (by omega)
        have hkd : k < d.length := by omega
        have hks : k < s.length := by omega
        have he : d[k] = s[k] := by
          have : d[k].toNat = s[k].toNat := by
            rcases Nat.lt_trichotomy d[k].toNat s[k].toNat with h1 | h1 | h1
            · have := lex_lt hdd hds hl hkd ht (by simpa [List.getElem?_eq_getElem hkd, List.getElem?_eq_getElem hks] using h1); omega
            · exact h1
            · have := lex_lt hds hdd hl.symm hks ht.symm (by simpa [List.getElem?_eq_getElem hkd, List.getElem?_eq_getElem hks] using h1); omega
          exact UInt8.toNat_inj.1 this
        rw [List.take_succ_eq_append_getElem hkd, List.take_succ_eq_append_getElem hks, ht, he]
    have := key d.length (Nat.le_refl _)
    rw [List.take_length, hl, List.take_length] at this
    exact this

/-! ### strconv's plain function on digits -/
theorem parseUintM_dig : ∀ (l : List UInt8) (acc : Nat), Dig l → acc ≤ 18446744073709551615 → Lib.parseUintM 18446744073709551615 acc l = if dvF acc l ≤ 18446744073709551615 then .ok (dvF acc l) else .range
  | [], acc, _, ha => by simp [Lib.parseUintM, dvF_nil, ha]
  | c :: r, acc, h, ha => by
    have hc := h.head
    have hge : acc * 10 + (c.toNat - 48) ≤ dvF acc (c :: r) := by
      rw [dvF_cons, dvF_eq]
      have : 1 ≤ 10 ^ r.length := Nat.pos_of_ne_zero (by simp)
      have : (acc * 10 + (c.toNat - 48)) * 1 ≤ (acc * 10 + (c.toNat - 48)) * 10 ^ r.length := Nat.mul_le_mul_left _ this
      omega
    unfold Lib.parseUintM
    rw [if_pos hc]
    by_cases h1 : 1844674407370955162 ≤ acc
    · rw [if_pos h1, if_neg (by omega)]
    · rw [if_neg h1]
      by_cases h2 : 18446744073709551615 < acc * 10 + (c.toNat - 48)
      · rw [if_pos h2, if_neg (by omega)]
      · rw [if_neg h2, parseUintM_dig r _ h.tail (by omega), dvF_cons]

theorem parseUintB_dig {l : List UInt8} (h : Dig l) (h0 : l ≠ []) : Lib.parseUintB 64 l = if dv l ≤ 18446744073709551615 then .ok (dv l) else .range := by
  have e : (2 : Nat) ^ 64 - 1 = 18446744073709551615 := by decide
  rw [Lib.parseUintB, if_neg h0, e, parseUintM_dig l 0 h (by omega)]
  rfl

/-- The number and the ok that parseInt answers at a sign and a value. -/
def pvN (neg : Bool) (m : Nat) : Int := if neg then (if m ≤ 9223372036854775808 then -(m : Int) else -9223372036854775808) else (if m < 9223372036854775808 then (m : Int) else 9223372036854775807)
def pvB (neg : Bool) (m : Nat) : Bool := if neg then decide (m ≤ 9223372036854775808) else decide (m < 9223372036854775808)

/-- A token: a sign or none, and digits. -/
def Tok (t : List UInt8) (neg : Bool) (ds : List UInt8) : Prop := Dig ds ∧ ds ≠ [] ∧ (t = ds ∧ neg = false ∨ t = 43 :: ds ∧ neg = false ∨ t = 45 :: ds ∧ neg = true)

theorem tok_parse {t : List UInt8} {neg : Bool} {ds : List UInt8} (h : Tok t neg ds) :
    (pvB neg (dv ds) = true ∧ Lib.parseIntB 64 t = .ok (pvN neg (dv ds))) ∨ (pvB neg (dv ds) = false ∧ Lib.parseIntB 64 t = .range ∧ Lib.intSat 64 t = pvN neg (dv ds)) := by
  obtain ⟨hd, h0, h⟩ := h
  have e63 : (2 : Nat) ^ (64 - 1) = 9223372036854775808 := by decide
  have hpl : Lib.signlessC (2 ^ (64 - 1)) (Lib.parseUintB 64 ds) = if dv ds < 9223372036854775808 then .ok (dv ds : Int) else .range := by
    rw [parseUintB_dig hd h0, e63]
    by_cases h1 : dv ds ≤ 18446744073709551615
    · rw [if_pos h1]
      unfold Lib.signlessC
      dsimp only
      by_cases h2 : 9223372036854775808 ≤ dv ds
      · rw [if_pos h2, if_neg (by omega)]
      · rw [if_neg h2, if_pos (by omega)]
    · rw [if_neg h1, if_neg (by omega)]; rfl
  have hmi : Lib.signedC (2 ^ (64 - 1)) (Lib.parseUintB 64 ds) = if dv ds ≤ 9223372036854775808 then .ok (-(dv ds : Int)) else .range := by
    rw [parseUintB_dig hd h0, e63]
    by_cases h1 : dv ds ≤ 18446744073709551615
    · rw [if_pos h1]
      unfold Lib.signedC
      dsimp only
      by_cases h2 : 9223372036854775808 < dv ds
      · rw [if_pos h2, if_neg (by omega)]
      · rw [if_neg h2, if_pos (by omega)]
    · rw [if_neg h1, if_neg (by omega)]; rfl
  have pos : ∀ t, (Lib.parseIntB 64 t = Lib.signlessC (2 ^ (64 - 1)) (Lib.parseUintB 64 ds)) → Lib.intSat 64 t = ((2 ^ (64 - 1) - 1 : Nat) : Int) →
      (pvB false (dv ds) = true ∧ Lib.parseIntB 64 t = .ok (pvN false (dv ds))) ∨ (pvB false (dv ds) = false ∧ Lib.parseIntB 64 t = .range ∧ Lib.intSat 64 t = pvN false (dv ds)) := by
    intro t h1 h2
    rw [h1, h2, hpl, e63]
    by_cases h3 : dv ds < 9223372036854775808
    · left; simp only [pvB, pvN, if_pos h3]; simp [h3]
    · right; simp only [pvB, pvN, if_neg h3]; simp [h3]
  rcases h with ⟨rfl, rfl⟩ | ⟨rfl, rfl⟩ | ⟨rfl, rfl⟩
  · match t, h0, hd with
    | c :: r, h0, hd =>
      have hc := hd.head
      exact pos _ (Lib.parseIntB_plain 64 c r (by omega) (by omega)) (Lib.intSat_other 64 c r (by omega))
  · exact pos _ (Lib.parseIntB_plus 64 ds) (Lib.intSat_other 64 43 ds (by decide))
  · rw [Lib.parseIntB_minus, Lib.intSat_minus, hmi, e63]
    by_cases h3 : dv ds ≤ 9223372036854775808
    · left; simp only [pvB, pvN, if_pos h3]; simp [h3]
    · right; simp only [pvB, pvN, if_neg h3]; simp [h3]

end Go.Proofs.Qxb6617284aDoor
