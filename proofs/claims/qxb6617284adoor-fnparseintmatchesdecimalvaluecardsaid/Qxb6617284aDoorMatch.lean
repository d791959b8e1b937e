/-
  zzB1IsZero (9), zzB1SameBytes (12); the law on values (function 3), walked whole.
-/
import Derived.Test.Qxb6617284aDoorDec
import Derived.Test.Qxb6617284aDoorSigns
namespace Go.Proofs.Qxb6617284aDoor
set_option linter.unusedVariables false
open Go.RowKit Go.Deep

set_option maxHeartbeats 400000 in
theorem zero_any {w : World} {g n : Nat} {d : List UInt8} (h : Bytes w g 0 d) (hn : n = d.length) (hm : n ≤ 4194304) (hd : Dig d) (hc : Cn d) :
    Calls Tryd.prog 9 #[.slice (some ⟨g, 0, none⟩) n n] w fun e w' => e = .returned (.bool (decide (dv d = 0))) ∧ w' = w := by
  by_cases h1 : n = 1
  · have g0 := h 0 (by omega)
    have HR : Hid (decide (byteAt d 0 = 48) = decide (dv d = 0)) := by
      refine hidIt ?_
      match d, hn, hd with
      | [c], _, hd =>
        have := hd.head
        have e : dv [c] = c.toNat - 48 := by rw [dv_cons]; simp [dv, dvF]
        rw [e]
        simp only [byteAt, List.getElem?_cons_zero, Option.getD_some]
        exact decide_eq_decide.2 (by omega)
      | [], hn, _ => simp at hn; omega
      | c :: c' :: r, hn, _ => simp at hn; omega
    obtain ⟨x, hx⟩ : ∃ x, x = byteAt d 0 := ⟨_, rfl⟩
    have x0 := byteAt_lo d 0
    have x1 := byteAt_hi d 0
    rw [← hx] at g0 HR x0 x1
    rw [Nat.zero_add] at g0
    subst h1
    clear h hn hm hd hc hx
    by_cases hx48 : x = 48
    · subst hx48
      go_enter Tryd.func9, Tryd.ntmps9
      go_wp2
      go_ret
      exact ⟨ret_bool (by have := HR.out; simpa using this), rfl⟩
    · have hx' : (x == 48) = false := by simpa using hx48
      go_enter Tryd.func9, Tryd.ntmps9
      go_wp2
      go_ret
      exact ⟨ret_bool (by have := HR.out; rw [decide_eq_false hx48] at this; exact this), rfl⟩
  · have HR : Hid (false = decide (dv d = 0)) := by
      refine hidIt ?_
      have hp := List.length_pos_iff.2 hc.1
      have := hc.le_dv hd (by omega)
      have h2 : 0 < 10 ^ (d.length - 1) := Nat.pos_of_ne_zero (by simp)
      rw [decide_eq_false (by omega)]
    have h1' : ((n : Int) == 1) = false := by simp; omega
    clear h hn hd hc
    go_enter Tryd.func9, Tryd.ntmps9
    go_wp2
    go_ret
    exact ⟨ret_bool HR.out, rfl⟩

set_option maxHeartbeats 800000 in
theorem sameBytes_any {w : World} {g1 g2 n : Nat} {l : List UInt8} (h1 : Bytes w g1 0 l) (h2 : Bytes w g2 0 l) (hn : Hid (n = l.length)) (hm : n ≤ 4194304) :
    Calls Tryd.prog 12 #[.slice (some ⟨g1, 0, none⟩) n n, .slice (some ⟨g2, 0, none⟩) n n] w fun e w' => e = .returned (.bool true) ∧ ∃ a, w' = w.drewN a := by
  have H1 := hidIt h1
  have H2 := hidIt h2
  clear h1 h2
  go_enter Tryd.func12, Tryd.ntmps12
  go_wp2
  go_loopw [5] (fun i wr => ∃ k a : Nat, k ≤ n ∧ i = .int .i64 k ∧ wr = w.drewN a) (fun i _ => n - (intOf i).toNat)
  case atStart => exact ⟨0, 0, Nat.zero_le _, rfl, rfl⟩
  case round =>
    obtain ⟨k, a, hk, rfl, rfl⟩ := hrel
    by_cases hlt : k < n
    · have e1 := H1.out k (by rw [← hn.out]; exact hlt)
      have e2 := H2.out k (by rw [← hn.out]; exact hlt)
      rw [Nat.zero_add] at e1 e2
      obtain ⟨x, hx⟩ : ∃ x, x = byteAt l k := ⟨_, rfl⟩
      rw [← hx] at e1 e2
      clear hx
      go_wp2
      go_quiet (fail)
      go_wp2
      go_roundw
      case rel => exact ⟨k + 1, _, by omega, by go_num, rfl⟩
      case measure => simp [intOf]; omega
    · go_wp2
      go_ret
      exact ⟨rfl, _, rfl⟩

theorem na8 {w : World} {g n : Nat} {l : List UInt8} (h : Bytes w g 0 (canon l)) (hn : n = (canon l).length) (hm : n ≤ 4194304) (hd : Dig l) (h0 : l ≠ []) :
    Calls Tryd.prog 8 #[.slice (some ⟨g, 0, none⟩) n n, .string ⟨#[57, 50, 50, 51, 51, 55, 50, 48, 51, 54, 56, 53, 52, 55, 55, 53, 56, 48, 56]⟩] w fun e w' => e = .returned (.bool (decide (dv l ≤ 9223372036854775808))) ∧ ∃ n, w' = w.drewN n := by
  have := notAbove_any g 0 n n (canon l) ⟨#[57, 50, 50, 51, 51, 55, 50, 48, 51, 54, 56, 53, 52, 55, 55, 53, 56, 48, 56]⟩ w hn (by omega) (by decide) h (canon_dig hd) k8_dig (canon_cn h0) k8_cn
  rw [canon_dv] at this
  have e : dv (ByteArray.mk #[57, 50, 50, 51, 51, 55, 50, 48, 51, 54, 56, 53, 52, 55, 55, 53, 56, 48, 56]).data.toList = 9223372036854775808 := k8_dv
  rw [e] at this
  exact this

/-- The answers at no sign or '+'. -/
theorem answersP (D : Nat) : ∃ (n : Int) (r : Bool), n = pvN false D ∧ r = pvB false D ∧ r = decide (D ≤ 9223372036854775807) ∧
    ((r = false ∧ n = 9223372036854775807) ∨ (r = true ∧ (D : Int) = n ∧ 0 ≤ n ∧ n ≤ 9223372036854775807)) := by
  refine ⟨_, _, rfl, rfl, ?_, ?_⟩
  · simp only [pvB]; rw [if_neg (by decide)]; exact decide_eq_decide.2 (by omega)
  · unfold pvN pvB
    by_cases h1 : D < 9223372036854775808
    · right; simp only [if_pos h1, decide_eq_true h1]; simp; omega
    · left; simp only [if_neg h1, decide_eq_false h1]; simp
/-- .. at '-'. -/
theorem answersN (D : Nat) : ∃ (n : Int) (r z : Bool), n = pvN true D ∧ r = pvB true D ∧ r = decide (D ≤ 9223372036854775808) ∧ z = decide (D = 0) ∧
    ((r = false ∧ z = false ∧ n = -9223372036854775808) ∨ (r = true ∧ z = true ∧ n = 0 ∧ (D : Int) = 0) ∨ (r = true ∧ z = false ∧ (D : Int) = -n ∧ n < 0 ∧ -9223372036854775808 ≤ n)) := by
  refine ⟨_, _, _, rfl, rfl, ?_, rfl, ?_⟩
  · simp only [pvB]; rw [if_pos trivial]
  · unfold pvN pvB
    by_cases h1 : D ≤ 9223372036854775808
    · right
      by_cases h0 : D = 0
      · left; subst h0; simp
      · right; simp only [if_pos h1, decide_eq_true h1, decide_eq_false h0]; simp; omega
    · left; simp only [if_neg h1, decide_eq_false h1, decide_eq_false (show ¬ D = 0 by omega)]; simp

/-- What stands from the canonical form on. -/
structure Held3 (w : World) (gD gC : Nat) (l ds : List UInt8) (wi : World) : Prop where
  bel : Below w.heap.size w wi
  tok : Bytes wi gD 0 l
  can : Bytes wi gC 0 (canon ds)
  err : ErrOk wi
theorem Held3.on {w : World} {gD gC : Nat} {l ds : List UInt8} {wi wj : World} (h : Held3 w gD gC l ds wi) (hb : Below wi.heap.size wi wj) (h0 : l ≠ []) (h1 : ds ≠ []) : Held3 w gD gC l ds wj :=
  ⟨h.bel.trans (hb.mono h.bel.size), h.tok.on hb h0, h.can.on hb (canon_ne h1), h.err.on hb⟩

theorem tok_head {l ds : List UInt8} (h : l.drop 1 = ds) {x : Int} (hx : x = byteAt l 0) (h0 : l ≠ []) (c : UInt8) (hc : x = (c.toNat : Int)) : l = c :: ds := by
  match l, h0 with
  | a :: r, _ =>
    simp only [List.drop_succ_cons, List.drop_zero] at h
    subst h
    have e : a = c := UInt8.toNat_inj.1 (by simp only [byteAt, List.getElem?_cons_zero, Option.getD_some] at hx; omega)
    rw [e]

theorem dec_is {ds d : List UInt8} (hd : Dig ds) (h0 : ds ≠ []) (e1 : Dig d) (e2 : Cn d) (e3 : dv d = dv ds) : d = canon ds :=
  (dv_inj e2 (canon_cn h0) e1 (canon_dig hd)).2 (by rw [canon_dv]; exact e3)


set_option maxRecDepth 100000 in
set_option maxHeartbeats 3200000 in
theorem match_plain {w : World} {b o c L : Nat} {l : List UInt8} (x0 : Int) (hx0 : Hid (x0 = byteAt l 0)) (n45 : (x0 == 45) = false) (n43 : (x0 == 43) = false) (h : Bytes w b o l) (hL : Hid (L = l.length)) (h0 : 0 < L) (hn : L ≤ 9223372036854775807) (he : ErrOk w) :
    Calls Tryd.prog 3 #[.slice (some ⟨b, o, none⟩) L c] w fun e w' => e = .returned (.bool true) ∧ Below w.heap.size w w' := by
  have H5 := hidIt (bytes5_any (some ⟨b, o, none⟩) L c w hn)
  by_cases t1 : 65536 < L
  · go_enter Tryd.func3, Tryd.ntmps3
    go_wp2_with (go_at_call 5; refine H5.out.mono ?_; rintro e w1 ⟨⟨r, rfl, hr⟩, hw1⟩; have hw2 := hw1.symm; clear hw1; subst hw2; clear hr; cases r)
    all_goals
      go_ret
      exact ⟨rfl, Below.refl _ _⟩
  have hL65 : L ≤ 65536 := by omega
  have hne : Hid (l ≠ []) := hidIt (by intro e; have := hL.out; rw [e] at this; simp at this; omega)
  have n22 := n22
  have hmk := make_bytes L (by omega)
  have HC0 := hidIt (MakeInv.start w L l 5 _ (size_madeCells #[.int .u8 0] L))
  obtain ⟨w1, hcp, hI1⟩ := copied HC0.out (Bytes.on h HC0.out.bel hne.out) hL.out 3 (c := c)
  have HB1 := hidIt hI1.bel
  have HD1 := hidIt (hI1.bytes (by rw [← hL.out]; exact Nat.le_refl _))
  have HE1 := hidIt (he.on HB1.out)
  have g0 := HD1.out 0 (by rw [← hL.out]; exact h0)
  rw [← hx0.out, Nat.zero_add] at g0
  clear h he t1 hn hI1 HC0
  have H6 := hidIt (digits_any w.heap.size 0 L L 0 l w1 hL (by omega) (by omega) HD1.out)
  go_enter Tryd.func3, Tryd.ntmps3
  go_upto_region 16 with (first | (go_at_call 5; refine H5.out.mono ?_; rintro e w1 ⟨⟨r, rfl, hr⟩, hw1⟩; have hw2 := hw1.symm; clear hw1; subst hw2; clear hr; cases r) | (go_at_call 6; refine H6.out.mono ?_; rintro e w1 ⟨⟨r, rfl, hr⟩, hw1⟩; have hw2 := hw1.symm; clear hw1; subst hw2; have HDig := hidIt hr; clear hr; cases r))
  · go_ret
    exact ⟨rfl, Below.refl _ _⟩
  · go_ret
    exact ⟨rfl, HB1.out⟩
  obtain ⟨ds, hds⟩ : ∃ ds, l.drop 0 = ds := ⟨_, rfl⟩
  have HD : Hid (Dig ds) := by
    have := HDig.out trivial
    rw [hds] at this
    exact hidIt this
  have HNE : Hid (ds ≠ []) := by
    refine hidIt ?_
    rw [← hds]
    intro e
    have h1 := congrArg List.length e
    have h2 := hL.out
    simp only [List.length_drop, List.length_nil] at h1
    omega
  have HT : Hid (Tok l false ds) := by
    refine hidIt ⟨HD.out, HNE.out, ?_⟩
    exact .inl ⟨by rw [← hds, List.drop_zero], rfl⟩
  clear HDig H5 H6
  obtain ⟨v, r, ev, er, ef, hcases⟩ := answersP (dv ds)
  have HV := hidIt ev
  have HR := hidIt er
  have HF := hidIt ef
  have HCS := hidIt hcases
  clear ev er ef hcases
  clear hmk hcp n22 g0
  go_wp2_with fail
  refine (canon_any w.heap.size 0 L L 0 l w1 hL (by omega) (by omega) HD1.out).mono ?_
  rintro e w2 ⟨n, hn, rfl, hbc, hb2, hs2⟩
  rw [hds] at hn hbc
  have HN := hidIt hn
  have hn5 : n ≤ 65536 := by
    have h1 := canon_len ds
    have h2 := hL.out
    rw [← hds] at h1
    simp only [List.length_drop] at h1
    rw [hds] at h1
    omega
  have hn4 : n ≤ 4194304 := by omega
  have HS2 := hidIt (Held3.mk (HB1.out.trans (hb2.mono HB1.out.size)) (HD1.out.on hb2 hne.out) hbc (HE1.out.on hb2) : Held3 w w.heap.size w1.heap.size l ds w2)
  clear hb2 hn hbc hs2 HB1 HD1 HE1 hds
  generalize w1.heap.size = gC at HS2 ⊢
  generalize w.heap.size = gD at HS2 ⊢
  go_wp2_with fail
  refine (na7 HS2.out.can HN.out hn4 HD.out HNE.out).mono ?_
  rintro e w3 ⟨rfl, a3, rfl⟩
  rw [← HF.out]
  have HS3 := hidIt (HS2.out.on (below_drew w2 a3) hne.out HNE.out)
  clear HS2
  generalize w2.drewN a3 = w3 at HS3 ⊢
  go_wp2_with fail
  refine (zz_at HS3.out.tok HT.out hL.out (by omega) HS3.out.err HV.out HR.out).mono ?_
  rintro e w4 ⟨rfl, hb4⟩
  have HS4 := hidIt (HS3.out.on hb4 hne.out HNE.out)
  clear hb4 HS3 HV HR HF
  rcases HCS.out with ⟨rfl, rfl⟩ | ⟨rfl, hD, p0, p1⟩
  · clear HCS
    go_wp2
    go_ret
    exact ⟨rfl, HS4.out.bel⟩
  · clear HCS
    have HDv := hidIt hD
    clear hD
    go_wp2_with fail
    refine (decimal_pos v (dv ds) HDv.out p0 p1 w4).mono ?_
    rintro e w5 ⟨g, m, d, rfl, hm, hm21, hbd, hb5, d1, d2, d3⟩
    have ed : d = canon ds := dec_is HD.out HNE.out d1 d2 d3
    rw [List.nil_append, ed] at hm hbd
    have emn : m = n := by rw [hm, HN.out]
    subst emn
    have HBd := hidIt hbd
    have HS5 := hidIt (HS4.out.on hb5 hne.out HNE.out)
    clear hm hbd hb5 d1 d2 d3 ed hm21 HS4
    go_wp2_with fail
    refine (sameBytes_any HBd.out HS5.out.can HN.out hn4).mono ?_
    rintro e w6 ⟨rfl, a6, rfl⟩
    have HS6 := hidIt (HS5.out.on (below_drew w5 a6) hne.out HNE.out)
    clear HS5 HBd
    go_wp2
    go_ret
    exact ⟨rfl, HS6.out.bel⟩


set_option maxRecDepth 100000 in
set_option maxHeartbeats 3200000 in
theorem match_plus {w : World} {b o c L : Nat} {l : List UInt8} (hx0 : Hid (43 = byteAt l 0)) (h : Bytes w b o l) (hL : Hid (L = l.length)) (h0 : 0 < L) (hn : L ≤ 9223372036854775807) (he : ErrOk w) :
    Calls Tryd.prog 3 #[.slice (some ⟨b, o, none⟩) L c] w fun e w' => e = .returned (.bool true) ∧ Below w.heap.size w w' := by
  have H5 := hidIt (bytes5_any (some ⟨b, o, none⟩) L c w hn)
  by_cases t1 : 65536 < L
  · go_enter Tryd.func3, Tryd.ntmps3
    go_wp2_with (go_at_call 5; refine H5.out.mono ?_; rintro e w1 ⟨⟨r, rfl, hr⟩, hw1⟩; have hw2 := hw1.symm; clear hw1; subst hw2; clear hr; cases r)
    all_goals
      go_ret
      exact ⟨rfl, Below.refl _ _⟩
  have hL65 : L ≤ 65536 := by omega
  have hne : Hid (l ≠ []) := hidIt (by intro e; have := hL.out; rw [e] at this; simp at this; omega)
  have n22 := n22
  have hmk := make_bytes L (by omega)
  have HC0 := hidIt (MakeInv.start w L l 5 _ (size_madeCells #[.int .u8 0] L))
  obtain ⟨w1, hcp, hI1⟩ := copied HC0.out (Bytes.on h HC0.out.bel hne.out) hL.out 3 (c := c)
  have HB1 := hidIt hI1.bel
  have HD1 := hidIt (hI1.bytes (by rw [← hL.out]; exact Nat.le_refl _))
  have HE1 := hidIt (he.on HB1.out)
  have g0 := HD1.out 0 (by rw [← hL.out]; exact h0)
  rw [← hx0.out, Nat.zero_add] at g0
  clear h he t1 hn hI1 HC0
  by_cases hL1 : L = 1
  · have hle : L ≤ 1 := by omega
    clear hL1
    go_enter Tryd.func3, Tryd.ntmps3
    go_wp2_with (go_at_call 5; refine H5.out.mono ?_; rintro e w1 ⟨⟨r, rfl, hr⟩, hw1⟩; have hw2 := hw1.symm; clear hw1; subst hw2; clear hr; cases r)
    · go_ret
      exact ⟨rfl, Below.refl _ _⟩
    · go_ret
      exact ⟨rfl, HB1.out⟩
  have hL2 : 2 ≤ L := by omega
  clear hL1
  have H6 := hidIt (digits_any w.heap.size 0 L L 1 l w1 hL (by omega) (by omega) HD1.out)
  go_enter Tryd.func3, Tryd.ntmps3
  go_upto_region 16 with (first | (go_at_call 5; refine H5.out.mono ?_; rintro e w1 ⟨⟨r, rfl, hr⟩, hw1⟩; have hw2 := hw1.symm; clear hw1; subst hw2; clear hr; cases r) | (go_at_call 6; refine H6.out.mono ?_; rintro e w1 ⟨⟨r, rfl, hr⟩, hw1⟩; have hw2 := hw1.symm; clear hw1; subst hw2; have HDig := hidIt hr; clear hr; cases r))
  · go_ret
    exact ⟨rfl, Below.refl _ _⟩
  · go_ret
    exact ⟨rfl, HB1.out⟩
  obtain ⟨ds, hds⟩ : ∃ ds, l.drop 1 = ds := ⟨_, rfl⟩
  have HD : Hid (Dig ds) := by
    have := HDig.out trivial
    rw [hds] at this
    exact hidIt this
  have HNE : Hid (ds ≠ []) := by
    refine hidIt ?_
    rw [← hds]
    intro e
    have h1 := congrArg List.length e
    have h2 := hL.out
    simp only [List.length_drop, List.length_nil] at h1
    omega
  have HT : Hid (Tok l false ds) := by
    refine hidIt ⟨HD.out, HNE.out, ?_⟩
    exact .inr (.inl ⟨tok_head hds hx0.out hne.out 43 rfl, rfl⟩)
  clear HDig H5 H6
  obtain ⟨v, r, ev, er, ef, hcases⟩ := answersP (dv ds)
  have HV := hidIt ev
  have HR := hidIt er
  have HF := hidIt ef
  have HCS := hidIt hcases
  clear ev er ef hcases
  clear hmk hcp n22 g0
  go_wp2_with fail
  refine (canon_any w.heap.size 0 L L 1 l w1 hL (by omega) (by omega) HD1.out).mono ?_
  rintro e w2 ⟨n, hn, rfl, hbc, hb2, hs2⟩
  rw [hds] at hn hbc
  have HN := hidIt hn
  have hn5 : n ≤ 65536 := by
    have h1 := canon_len ds
    have h2 := hL.out
    rw [← hds] at h1
    simp only [List.length_drop] at h1
    rw [hds] at h1
    omega
  have hn4 : n ≤ 4194304 := by omega
  have HS2 := hidIt (Held3.mk (HB1.out.trans (hb2.mono HB1.out.size)) (HD1.out.on hb2 hne.out) hbc (HE1.out.on hb2) : Held3 w w.heap.size w1.heap.size l ds w2)
  clear hb2 hn hbc hs2 HB1 HD1 HE1 hds
  generalize w1.heap.size = gC at HS2 ⊢
  generalize w.heap.size = gD at HS2 ⊢
  go_wp2_with fail
  refine (na7 HS2.out.can HN.out hn4 HD.out HNE.out).mono ?_
  rintro e w3 ⟨rfl, a3, rfl⟩
  rw [← HF.out]
  have HS3 := hidIt (HS2.out.on (below_drew w2 a3) hne.out HNE.out)
  clear HS2
  generalize w2.drewN a3 = w3 at HS3 ⊢
  go_wp2_with fail
  refine (zz_at HS3.out.tok HT.out hL.out (by omega) HS3.out.err HV.out HR.out).mono ?_
  rintro e w4 ⟨rfl, hb4⟩
  have HS4 := hidIt (HS3.out.on hb4 hne.out HNE.out)
  clear hb4 HS3 HV HR HF
  rcases HCS.out with ⟨rfl, rfl⟩ | ⟨rfl, hD, p0, p1⟩
  · clear HCS
    go_wp2
    go_ret
    exact ⟨rfl, HS4.out.bel⟩
  · clear HCS
    have HDv := hidIt hD
    clear hD
    go_wp2_with fail
    refine (decimal_pos v (dv ds) HDv.out p0 p1 w4).mono ?_
    rintro e w5 ⟨g, m, d, rfl, hm, hm21, hbd, hb5, d1, d2, d3⟩
    have ed : d = canon ds := dec_is HD.out HNE.out d1 d2 d3
    rw [List.nil_append, ed] at hm hbd
    have emn : m = n := by rw [hm, HN.out]
    subst emn
    have HBd := hidIt hbd
    have HS5 := hidIt (HS4.out.on hb5 hne.out HNE.out)
    clear hm hbd hb5 d1 d2 d3 ed hm21 HS4
    go_wp2_with fail
    refine (sameBytes_any HBd.out HS5.out.can HN.out hn4).mono ?_
    rintro e w6 ⟨rfl, a6, rfl⟩
    have HS6 := hidIt (HS5.out.on (below_drew w5 a6) hne.out HNE.out)
    clear HS5 HBd
    go_wp2
    go_ret
    exact ⟨rfl, HS6.out.bel⟩


set_option maxRecDepth 100000 in
set_option maxHeartbeats 3200000 in
theorem match_minus {w : World} {b o c L : Nat} {l : List UInt8} (hx0 : Hid (45 = byteAt l 0)) (h : Bytes w b o l) (hL : Hid (L = l.length)) (h0 : 0 < L) (hn : L ≤ 9223372036854775807) (he : ErrOk w) :
    Calls Tryd.prog 3 #[.slice (some ⟨b, o, none⟩) L c] w fun e w' => e = .returned (.bool true) ∧ Below w.heap.size w w' := by
  have H5 := hidIt (bytes5_any (some ⟨b, o, none⟩) L c w hn)
  by_cases t1 : 65536 < L
  · go_enter Tryd.func3, Tryd.ntmps3
    go_wp2_with (go_at_call 5; refine H5.out.mono ?_; rintro e w1 ⟨⟨r, rfl, hr⟩, hw1⟩; have hw2 := hw1.symm; clear hw1; subst hw2; clear hr; cases r)
    all_goals
      go_ret
      exact ⟨rfl, Below.refl _ _⟩
  have hL65 : L ≤ 65536 := by omega
  have hne : Hid (l ≠ []) := hidIt (by intro e; have := hL.out; rw [e] at this; simp at this; omega)
  have n22 := n22
  have hmk := make_bytes L (by omega)
  have HC0 := hidIt (MakeInv.start w L l 5 _ (size_madeCells #[.int .u8 0] L))
  obtain ⟨w1, hcp, hI1⟩ := copied HC0.out (Bytes.on h HC0.out.bel hne.out) hL.out 3 (c := c)
  have HB1 := hidIt hI1.bel
  have HD1 := hidIt (hI1.bytes (by rw [← hL.out]; exact Nat.le_refl _))
  have HE1 := hidIt (he.on HB1.out)
  have g0 := HD1.out 0 (by rw [← hL.out]; exact h0)
  rw [← hx0.out, Nat.zero_add] at g0
  clear h he t1 hn hI1 HC0
  by_cases hL1 : L = 1
  · have hle : L ≤ 1 := by omega
    clear hL1
    go_enter Tryd.func3, Tryd.ntmps3
    go_wp2_with (go_at_call 5; refine H5.out.mono ?_; rintro e w1 ⟨⟨r, rfl, hr⟩, hw1⟩; have hw2 := hw1.symm; clear hw1; subst hw2; clear hr; cases r)
    · go_ret
      exact ⟨rfl, Below.refl _ _⟩
    · go_ret
      exact ⟨rfl, HB1.out⟩
  have hL2 : 2 ≤ L := by omega
  clear hL1
  have H6 := hidIt (digits_any w.heap.size 0 L L 1 l w1 hL (by omega) (by omega) HD1.out)
  go_enter Tryd.func3, Tryd.ntmps3
  go_upto_region 16 with (first | (go_at_call 5; refine H5.out.mono ?_; rintro e w1 ⟨⟨r, rfl, hr⟩, hw1⟩; have hw2 := hw1.symm; clear hw1; subst hw2; clear hr; cases r) | (go_at_call 6; refine H6.out.mono ?_; rintro e w1 ⟨⟨r, rfl, hr⟩, hw1⟩; have hw2 := hw1.symm; clear hw1; subst hw2; have HDig := hidIt hr; clear hr; cases r))
  · go_ret
    exact ⟨rfl, Below.refl _ _⟩
  · go_ret
    exact ⟨rfl, HB1.out⟩
  obtain ⟨ds, hds⟩ : ∃ ds, l.drop 1 = ds := ⟨_, rfl⟩
  have HD : Hid (Dig ds) := by
    have := HDig.out trivial
    rw [hds] at this
    exact hidIt this
  have HNE : Hid (ds ≠ []) := by
    refine hidIt ?_
    rw [← hds]
    intro e
    have h1 := congrArg List.length e
    have h2 := hL.out
    simp only [List.length_drop, List.length_nil] at h1
    omega
  have HT : Hid (Tok l true ds) := by
    refine hidIt ⟨HD.out, HNE.out, ?_⟩
    exact .inr (.inr ⟨tok_head hds hx0.out hne.out 45 rfl, rfl⟩)
  clear HDig H5 H6
  obtain ⟨v, r, z, ev, er, ef, ez, hcases⟩ := answersN (dv ds)
  have HV := hidIt ev
  have HR := hidIt er
  have HF := hidIt ef
  have HZ := hidIt ez
  have HCS := hidIt hcases
  clear ev er ef ez hcases
  clear hmk hcp n22 g0
  go_wp2_with fail
  refine (canon_any w.heap.size 0 L L 1 l w1 hL (by omega) (by omega) HD1.out).mono ?_
  rintro e w2 ⟨n, hn, rfl, hbc, hb2, hs2⟩
  rw [hds] at hn hbc
  have HN := hidIt hn
  have hn5 : n ≤ 65536 := by
    have h1 := canon_len ds
    have h2 := hL.out
    rw [← hds] at h1
    simp only [List.length_drop] at h1
    rw [hds] at h1
    omega
  have hn4 : n ≤ 4194304 := by omega
  have HS2 := hidIt (Held3.mk (HB1.out.trans (hb2.mono HB1.out.size)) (HD1.out.on hb2 hne.out) hbc (HE1.out.on hb2) : Held3 w w.heap.size w1.heap.size l ds w2)
  clear hb2 hn hbc hs2 HB1 HD1 HE1 hds
  generalize w1.heap.size = gC at HS2 ⊢
  generalize w.heap.size = gD at HS2 ⊢
  go_wp2_with fail
  refine (na8 HS2.out.can HN.out hn4 HD.out HNE.out).mono ?_
  rintro e w3 ⟨rfl, a3, rfl⟩
  rw [← HF.out]
  have HS3 := hidIt (HS2.out.on (below_drew w2 a3) hne.out HNE.out)
  clear HS2
  generalize w2.drewN a3 = w3 at HS3 ⊢
  have HZC := hidIt (zero_any HS3.out.can HN.out hn4 (canon_dig HD.out) (canon_cn HNE.out))
  rw [canon_dv] at HZC
  go_wp2_with fail
  refine HZC.out.mono ?_
  rintro e w3' ⟨rfl, hw3⟩
  have hw3' := hw3.symm
  clear hw3
  subst hw3'
  rw [← HZ.out]
  clear HZC
  rcases HCS.out with ⟨rfl, rfl, rfl⟩ | ⟨rfl, rfl, rfl, hD⟩ | ⟨rfl, rfl, hD, p0, p1⟩
  · clear HCS
    go_wp2_with fail
    refine (prepend_any _ 0 n n 45 45 rfl (by decide) (by decide) (canon ds) _ HN.out (by omega) HS3.out.can).mono ?_
    rintro e w4 ⟨rfl, hI4⟩
    have HS4 := hidIt (HS3.out.on hI4.bel hne.out HNE.out)
    clear hI4 HS3
    go_wp2_with fail
    refine (zz_at HS4.out.tok HT.out hL.out (by omega) HS4.out.err HV.out HR.out).mono ?_
    rintro e w5 ⟨rfl, hb5⟩
    have HS5 := hidIt (HS4.out.on hb5 hne.out HNE.out)
    clear hb5 HS4 HV HR HF HZ
    go_wp2
    go_ret
    exact ⟨rfl, HS5.out.bel⟩
  · clear HCS
    have HDv := hidIt hD
    clear hD
    go_wp2_with fail
    refine (zz_at HS3.out.tok HT.out hL.out (by omega) HS3.out.err HV.out HR.out).mono ?_
    rintro e w4 ⟨rfl, hb4⟩
    have HS4 := hidIt (HS3.out.on hb4 hne.out HNE.out)
    clear hb4 HS3 HV HR HF HZ
    go_wp2_with fail
    refine (decimal_pos 0 (dv ds) HDv.out (by omega) (by omega) w4).mono ?_
    rintro e w5 ⟨g, m, d, rfl, hm, hm21, hbd, hb5, d1, d2, d3⟩
    have ed : d = canon ds := dec_is HD.out HNE.out d1 d2 d3
    rw [List.nil_append, ed] at hm hbd
    have emn : m = n := by rw [hm, HN.out]
    subst emn
    have HBd := hidIt hbd
    have HS5 := hidIt (HS4.out.on hb5 hne.out HNE.out)
    clear hm hbd hb5 d1 d2 d3 ed hm21 HS4
    go_wp2_with fail
    refine (sameBytes_any HBd.out HS5.out.can HN.out hn4).mono ?_
    rintro e w6 ⟨rfl, a6, rfl⟩
    have HS6 := hidIt (HS5.out.on (below_drew w5 a6) hne.out HNE.out)
    clear HS5 HBd
    go_wp2
    go_ret
    exact ⟨rfl, HS6.out.bel⟩
  · clear HCS
    have HDv := hidIt hD
    clear hD
    go_wp2_with fail
    refine (prepend_any _ 0 n n 45 45 rfl (by decide) (by decide) (canon ds) _ HN.out (by omega) HS3.out.can).mono ?_
    rintro e w4 ⟨rfl, hI4⟩
    have HS4 := hidIt (HS3.out.on hI4.bel hne.out HNE.out)
    have HP4 := hidIt (hI4.bytes (by simp only [List.length_cons]; rw [← HN.out]; exact Nat.le_refl _))
    clear hI4
    generalize w3.heap.size = gW at HP4 ⊢
    clear HS3
    go_wp2_with fail
    refine (zz_at HS4.out.tok HT.out hL.out (by omega) HS4.out.err HV.out HR.out).mono ?_
    rintro e w5 ⟨rfl, hb5⟩
    have HS5 := hidIt (HS4.out.on hb5 hne.out HNE.out)
    have HP5 := hidIt (HP4.out.on hb5 (by simp))
    clear hb5 HS4 HP4 HV HR HF HZ
    go_wp2_with fail
    refine (decimal_neg v (dv ds) HDv.out p0 p1 w5).mono ?_
    rintro e w6 ⟨g, m, d, rfl, hm, hm21, hbd, hb6, d1, d2, d3⟩
    have ed : d = canon ds := dec_is HD.out HNE.out d1 d2 d3
    rw [List.singleton_append, ed] at hm hbd
    have emn : m = n + 1 := by rw [hm, List.length_cons, HN.out]
    subst emn
    have HBd := hidIt hbd
    have HNm := hidIt hm
    have HS6 := hidIt (HS5.out.on hb6 hne.out HNE.out)
    have HP6 := hidIt (HP5.out.on hb6 (by simp))
    clear hm hbd hb6 d1 d2 d3 ed HS5 HP5
    go_wp2_with fail
    refine (sameBytes_any HBd.out HP6.out HNm.out (by omega)).mono ?_
    rintro e w7 ⟨rfl, a7, rfl⟩
    have HS7 := hidIt (HS6.out.on (below_drew w6 a7) hne.out HNE.out)
    clear HS6 HBd HP6
    go_wp2
    go_ret
    exact ⟨rfl, HS7.out.bel⟩


end Go.Proofs.Qxb6617284aDoor
