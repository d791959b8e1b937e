/-
  The law on signs (function 4), walked whole.
-/
import Derived.Test.Qxb6617284aDoorLaw
import Derived.Deep.Cut
import Derived.Deep.CutBlock
namespace Go.Proofs.Qxb6617284aDoor
set_option linter.unusedVariables false
open Go.RowKit Go.Deep

def k7 : List UInt8 := [57, 50, 50, 51, 51, 55, 50, 48, 51, 54, 56, 53, 52, 55, 55, 53, 56, 48, 55]
def k8 : List UInt8 := [57, 50, 50, 51, 51, 55, 50, 48, 51, 54, 56, 53, 52, 55, 55, 53, 56, 48, 56]
theorem k7_dig : Dig k7 := by unfold Dig; decide
theorem k8_dig : Dig k8 := by unfold Dig; decide
theorem k7_cn : Cn k7 := ⟨by decide, fun _ c r h => by cases h; decide⟩
theorem k8_cn : Cn k8 := ⟨by decide, fun _ c r h => by cases h; decide⟩
theorem k7_dv : dv k7 = 9223372036854775807 := by decide
theorem k8_dv : dv k8 = 9223372036854775808 := by decide

theorem n22 : ∀ (w : World) (a : Option Addr) (n c : Nat), (binOp .neq 22 (.slice a n c) (.slice none 0 0)).run Tryd.prog w = .ok (.bool (!a.isNone)) w := fun w a n c => run_neq_slice_nil_any w 22 5 a n c 0 0 Tryd.underlying22

theorem na7 {w : World} {g n : Nat} {l : List UInt8} (h : Bytes w g 0 (canon l)) (hn : n = (canon l).length) (hm : n ≤ 4194304) (hd : Dig l) (h0 : l ≠ []) :
    Calls Tryd.prog 8 #[.slice (some ⟨g, 0, none⟩) n n, .string ⟨#[57, 50, 50, 51, 51, 55, 50, 48, 51, 54, 56, 53, 52, 55, 55, 53, 56, 48, 55]⟩] w fun e w' => e = .returned (.bool (decide (dv l ≤ 9223372036854775807))) ∧ ∃ n, w' = w.drewN n := by
  have := notAbove_any g 0 n n (canon l) ⟨#[57, 50, 50, 51, 51, 55, 50, 48, 51, 54, 56, 53, 52, 55, 55, 53, 56, 48, 55]⟩ w hn (by omega) (by decide) h (canon_dig hd) k7_dig (canon_cn h0) k7_cn
  rw [canon_dv] at this
  have e : dv (ByteArray.mk #[57, 50, 50, 51, 51, 55, 50, 48, 51, 54, 56, 53, 52, 55, 55, 53, 56, 48, 55]).data.toList = 9223372036854775807 := k7_dv
  rw [e] at this
  exact this

theorem st8 {w : World} {g n : Nat} {l : List UInt8} (h : Bytes w g 0 (canon l)) (hn : n = (canon l).length) (hm : n ≤ 4194304) (hd : Dig l) (h0 : l ≠ []) :
    Calls Tryd.prog 15 #[.slice (some ⟨g, 0, none⟩) n n, .string ⟨#[57, 50, 50, 51, 51, 55, 50, 48, 51, 54, 56, 53, 52, 55, 55, 53, 56, 48, 56]⟩] w fun e w' => e = .returned (.bool (decide (dv l = 9223372036854775808))) ∧ ∃ n, w' = w.drewN n := by
  have := text_any g 0 n n (canon l) ⟨#[57, 50, 50, 51, 51, 55, 50, 48, 51, 54, 56, 53, 52, 55, 55, 53, 56, 48, 56]⟩ w hn (by omega) (by decide) h
  have e : decide (canon l = (ByteArray.mk #[57, 50, 50, 51, 51, 55, 50, 48, 51, 54, 56, 53, 52, 55, 55, 53, 56, 48, 56]).data.toList) = decide (dv l = 9223372036854775808) := by
    refine decide_eq_decide.2 ?_
    rw [← canon_dv l, ← k8_dv]
    exact dv_inj (canon_cn h0) k8_cn (canon_dig hd) k8_dig
  rw [e] at this
  exact this

theorem canon_len : ∀ (l : List UInt8), (canon l).length ≤ l.length
  | [] => Nat.le_refl _
  | [c] => Nat.le_refl _
  | c :: d :: r => by
    unfold canon
    split
    · have := canon_len (d :: r)
      simp only [List.length_cons] at this ⊢
      omega
    · exact Nat.le_refl _

/-- How the six answers stand to one another. -/
theorem answers (D : Nat) : ∃ (P M : Int) (okp okm f m : Bool), P = pvN false D ∧ okp = pvB false D ∧ M = pvN true D ∧ okm = pvB true D ∧ f = decide (D ≤ 9223372036854775807) ∧ m = decide (D = 9223372036854775808) ∧
    ((okp = true ∧ f = true ∧ okm = true ∧ M = -P ∧ 0 ≤ P ∧ P ≤ 9223372036854775807) ∨ (okp = false ∧ f = false ∧ P = 9223372036854775807 ∧ M = -9223372036854775808 ∧ okm = m)) := by
  refine ⟨_, _, _, _, _, _, rfl, rfl, rfl, rfl, rfl, rfl, ?_⟩
  unfold pvN pvB
  by_cases h1 : D < 9223372036854775808
  · left
    simp only [if_pos h1, if_pos (show D ≤ 9223372036854775808 by omega), decide_eq_true h1, decide_eq_true (show D ≤ 9223372036854775807 by omega), decide_eq_true (show D ≤ 9223372036854775808 by omega)]
    simp
    omega
  · right
    by_cases h2 : D = 9223372036854775808
    · subst h2; simp
    · simp only [if_neg h1, if_neg (show ¬ D ≤ 9223372036854775808 by omega), decide_eq_false h1, decide_eq_false (show ¬ D ≤ 9223372036854775807 by omega), decide_eq_false (show ¬ D ≤ 9223372036854775808 by omega), decide_eq_false h2]
      simp

/-- What stands from the canonical form on: the copy of the digits, their canonical form, the variable. -/
structure Held (w : World) (gD gC : Nat) (l : List UInt8) (wi : World) : Prop where
  bel : Below w.heap.size w wi
  dig : Bytes wi gD 0 l
  can : Bytes wi gC 0 (canon l)
  err : ErrOk wi
theorem Held.on {w : World} {gD gC : Nat} {l : List UInt8} {wi wj : World} (h : Held w gD gC l wi) (hb : Below wi.heap.size wi wj) (h0 : l ≠ []) : Held w gD gC l wj :=
  ⟨h.bel.trans (hb.mono h.bel.size), h.dig.on hb h0, h.can.on hb (canon_ne h0), h.err.on hb⟩

/-- ZZParseInt at a token, the answers by name. -/
theorem zz_at {w : World} {b n : Nat} {t : List UInt8} {neg : Bool} {ds : List UInt8} {v : Int} {r : Bool} (h : Bytes w b 0 t) (ht : Tok t neg ds) (hn : n = t.length) (hm : n ≤ 4194304) (he : ErrOk w) (hv : v = pvN neg (dv ds)) (hr : r = pvB neg (dv ds)) :
    Calls Tryd.prog 11 #[.slice (some ⟨b, 0, none⟩) n n] w (PQ w v r) := by
  subst hv hr
  exact zzparse (parse_any h ht hn (Nat.le_refl _) (by omega) hm he)

set_option maxRecDepth 100000 in
set_option maxHeartbeats 3200000 in
theorem signs_some {w : World} {b o c L : Nat} {l : List UInt8} (h : Bytes w b o l) (hL : Hid (L = l.length)) (h0 : 0 < L) (hn : L ≤ 9223372036854775807) (he : ErrOk w) :
    Calls Tryd.prog 4 #[.slice (some ⟨b, o, none⟩) L c] w fun e w' => e = .returned (.bool true) ∧ Below w.heap.size w w' := by
  have H14 := hidIt (bytes14_any (some ⟨b, o, none⟩) L c w hn)
  by_cases t1 : 65536 < L
  · go_enter Tryd.func4, Tryd.ntmps4
    go_wp2_with (go_at_call 14; refine H14.out.mono ?_; rintro e w1 ⟨⟨r, rfl, hr⟩, hw1⟩; have hw2 := hw1.symm; clear hw1; subst hw2; clear hr; cases r)
    all_goals
      go_ret
      exact ⟨rfl, Below.refl _ _⟩
  have hL65 : L ≤ 65536 := by omega
  have hne : Hid (l ≠ []) := hidIt (by intro e; have := hL.out; rw [e] at this; simp at this; omega)
  have H6 := hidIt (digits_any b o c L 0 l w hL hn (Nat.zero_le _) h)
  have H := hidIt h
  have HE := hidIt he
  have n22 := n22
  have hmk := make_bytes L (by omega)
  have HC0 := hidIt (MakeInv.start w L l 5 _ (size_madeCells #[.int .u8 0] L))
  obtain ⟨w1, hcp, hI1⟩ := copied HC0.out (Bytes.on H.out HC0.out.bel hne.out) hL.out 3 (c := c)
  have HI1 := hidIt hI1
  clear h he t1 hn hI1 HC0
  go_enter Tryd.func4, Tryd.ntmps4
  go_upto_region 9 with (first | (go_at_call 14; refine H14.out.mono ?_; rintro e w1 ⟨⟨r, rfl, hr⟩, hw1⟩; have hw2 := hw1.symm; clear hw1; subst hw2; clear hr; cases r) | (go_at_call 6; refine H6.out.mono ?_; rintro e w1 ⟨⟨r, rfl, hr⟩, hw1⟩; have hw2 := hw1.symm; clear hw1; subst hw2; have HDig := hidIt hr; clear hr; cases r))
  · go_ret
    exact ⟨rfl, Below.refl _ _⟩
  · go_ret
    exact ⟨rfl, Below.refl _ _⟩
  have HD : Hid (Dig l) := HDig.out trivial
  clear HDig H14 H6
  obtain ⟨P, M, okp, okm, f, m, eP, eokp, eM, eokm, ef, em, hcases⟩ := answers (dv l)
  have HT0 : Hid (Tok l false l) := ⟨HD.out, hne.out, .inl ⟨rfl, rfl⟩⟩
  have HTp : Hid (Tok (43 :: l) false l) := ⟨HD.out, hne.out, .inr (.inl ⟨rfl, rfl⟩)⟩
  have HTm : Hid (Tok (45 :: l) true l) := ⟨HD.out, hne.out, .inr (.inr ⟨rfl, rfl⟩)⟩
  have HP := hidIt eP
  have HO := hidIt eokp
  have HMm := hidIt eM
  have HOm := hidIt eokm
  have HF := hidIt ef
  have Hm := hidIt em
  have HCS := hidIt hcases
  clear eP eokp eM eokm ef em hcases
  go_wp2_with fail
  have HB1 := hidIt HI1.out.bel
  have HD1 := hidIt (HI1.out.bytes (by rw [← hL.out]; exact Nat.le_refl _))
  have HE1 := hidIt (HE.out.on HB1.out)
  clear HI1 HE H hcp hmk n22
  refine (canon_any w.heap.size 0 L L 0 l w1 hL (by omega) h0 HD1.out).mono ?_
  rintro e w2 ⟨n, hn, rfl, hbc, hb2, hs2⟩
  rw [List.drop_zero] at hn hbc
  have HB2 := hidIt hb2
  have HN := hidIt hn
  have HC2 := hidIt hbc
  have HnL : Hid (n ≤ 4194304) := by
    have h1 := canon_len l
    have h2 := hL.out
    exact hidIt (by omega)
  have hn4 := HnL.out
  have HS2 := hidIt (Held.mk (HB1.out.trans (HB2.out.mono HB1.out.size)) (HD1.out.on HB2.out hne.out) HC2.out (HE1.out.on HB2.out) : Held w w.heap.size w1.heap.size l w2)
  clear hb2 hn hbc hs2 HB1 HD1 HE1 HB2 HC2
  generalize w1.heap.size = gC at HS2 ⊢
  generalize w.heap.size = gD at HS2 ⊢
  go_wp2_with fail
  refine (na7 HS2.out.can HN.out hn4 HD.out hne.out).mono ?_
  rintro e w3 ⟨rfl, a3, rfl⟩
  rw [← HF.out]
  have HS3 := hidIt (HS2.out.on (below_drew w2 a3) hne.out)
  clear HS2
  generalize w2.drewN a3 = w3 at HS3 ⊢
  go_wp2_with fail
  refine (st8 HS3.out.can HN.out hn4 HD.out hne.out).mono ?_
  rintro e w4 ⟨rfl, a4, rfl⟩
  rw [← Hm.out]
  have HS4 := hidIt (HS3.out.on (below_drew w3 a4) hne.out)
  clear HS3
  generalize w3.drewN a4 = w4 at HS4 ⊢
  go_wp2_with fail
  refine (prepend_any gD 0 L L 45 45 rfl (by decide) (by decide) l w4 hL (by omega) HS4.out.dig).mono ?_
  rintro e w5 ⟨rfl, hI5⟩
  have HS5 := hidIt (HS4.out.on hI5.bel hne.out)
  have HM5 := hidIt (hI5.bytes (by simp only [List.length_cons]; rw [← hL.out]; exact Nat.le_refl _))
  clear hI5 HS4
  generalize w4.heap.size = gM at HM5 ⊢
  go_wp2_with fail
  refine (prepend_any gD 0 L L 43 43 rfl (by decide) (by decide) l w5 hL (by omega) HS5.out.dig).mono ?_
  rintro e w6 ⟨rfl, hI6⟩
  have HS6 := hidIt (HS5.out.on hI6.bel hne.out)
  have HM6 := hidIt (HM5.out.on hI6.bel (by simp))
  have HP6 := hidIt (hI6.bytes (by simp only [List.length_cons]; rw [← hL.out]; exact Nat.le_refl _))
  clear hI6 HS5 HM5
  generalize w5.heap.size = gP at HP6 ⊢
  have HLm : Hid (L + 1 = (45 :: l).length) := hidIt (by simp only [List.length_cons]; rw [← hL.out])
  have HLp : Hid (L + 1 = (43 :: l).length) := hidIt (by simp only [List.length_cons]; rw [← hL.out])
  go_wp2_with fail
  refine (zz_at HS6.out.dig HT0.out hL.out (by omega) HS6.out.err HP.out HO.out).mono ?_
  rintro e w7 ⟨rfl, hb7⟩
  have HS7 := hidIt (HS6.out.on hb7 hne.out)
  have HM7 := hidIt (HM6.out.on hb7 (by simp))
  have HP7 := hidIt (HP6.out.on hb7 (by simp))
  clear hb7 HS6 HM6 HP6
  go_wp2_with fail
  refine (zz_at HM7.out HTm.out HLm.out (by omega) HS7.out.err HMm.out HOm.out).mono ?_
  rintro e w8 ⟨rfl, hb8⟩
  have HS8 := hidIt (HS7.out.on hb8 hne.out)
  have HP8 := hidIt (HP7.out.on hb8 (by simp))
  clear hb8 HS7 HM7 HP7
  go_wp2_with fail
  refine (zz_at HP8.out HTp.out HLp.out (by omega) HS8.out.err HP.out HO.out).mono ?_
  rintro e w9 ⟨rfl, hb9⟩
  have HS9 := hidIt (HS8.out.on hb9 hne.out)
  clear hb9 HS8 HP8
  clear HP HO HMm HOm HF Hm HT0 HTp HTm
  rcases HCS.out with ⟨rfl, rfl, rfl, rfl, p0, p1⟩ | ⟨rfl, rfl, rfl, rfl, rfl⟩
  · clear HCS
    go_wp2
    go_ret
    exact ⟨rfl, HS9.out.bel⟩
  · clear HCS
    go_wp2
    go_ret
    exact ⟨rfl, HS9.out.bel⟩

end Go.Proofs.Qxb6617284aDoor
