/-
  The law on two keeps, walked whole (function 3).
-/
import Derived.Test.Qxb6617284aTSt
import Derived.Deep.CutBlock
namespace Go.Proofs.Qxb6617284a
set_option linter.unusedVariables false
open Go.RowKit Go.Deep Go.Maps

theorem same_true {w : World} {v1 v2 : Value} {xs : List Int} (h1 : Rd w v1 xs) (h2 : Rd w v2 xs) : Calls Try.prog 11 #[v1, v2] w fun e w' => e = .returned (.bool true) ∧ Below w.heap.size w w' := by
  refine (same_any h1 h2).mono ?_
  rintro e w' ⟨rfl, n, rfl⟩
  exact ⟨by simp, below_drew w n⟩

theorem agree_at {w : World} {v1 v2 : Value} {xs ys : List Int} (h1 : Rd w v1 xs) (h2 : Rd w v2 ys) {r : Bool} (hr : agr xs ys = r) : Calls Try.prog 8 #[v1, v2] w fun e w' => e = .returned (.bool r) ∧ ∃ m, w' = w.drewN m := by
  subst hr
  exact agree_any h1 h2

theorem own_head {W : World} {g Lx cap : Nat} {x : List Int} (h : Own W (.slice (some ⟨g, 0, none⟩) Lx cap) x) (h0 : x ≠ []) : W.cell? ⟨g, 0, none⟩ = some (.int .i64 (x[0]?.getD 0)) ∧ W.frozen? ⟨g, 0, none⟩ = false ∧ 0 < Lx := by
  have hp : 0 < x.length := List.length_pos_iff.2 h0
  obtain ⟨rfl, _, _, cur, hcur, _⟩ := own_cur h
  obtain ⟨_, _, _, hcell⟩ := h.rd.cells
  exact ⟨hcell 0 hp, by simp [World.frozen?, hcur], hp⟩

theorem rd_head {W : World} {g Lx cap : Nat} {x : List Int} (h : Rd W (.slice (some ⟨g, 0, none⟩) Lx cap) x) (h0 : x ≠ []) : W.cell? ⟨g, 0, none⟩ = some (.int .i64 (x[0]?.getD 0)) := by
  obtain ⟨rfl, _, _, hcell⟩ := h.cells
  exact hcell 0 (List.length_pos_iff.2 h0)

theorem agr_head {x y : List Int} (h : agr x y = true) (hx : x ≠ []) (hy : y ≠ []) : x[0]?.getD 0 = y[0]?.getD 0 := by
  have h1 := of_decide_eq_true h
  have p1 := List.length_pos_iff.2 hx
  have p2 := List.length_pos_iff.2 hy
  have h2 := congrArg (fun l => l[0]?.getD 0) h1
  simp only [List.getElem?_take] at h2
  rw [if_pos (by omega), if_pos (by omega)] at h2
  exact h2

set_option maxRecDepth 100000 in
set_option maxHeartbeats 6400000 in
theorem twice_any {ak : Option Addr} {nk ck : Nat} {va : Option Addr} {nv vc : Nat} {sa : Option Addr} {ns cs : Nat} {key : Int} {la : Option Addr} {nl lc : Nat} {w : World} {ks sl ll : List Int} {A : Nat → Option Addr} {C : Nat → Nat} {VL : Nat → List Int}
    (hk : Rd w (.slice ak nk ck) ks) (hwf : ∀ x ∈ ks, (Lit.int .i64 x).wf = true) (hkey : (Lit.int .i64 key).wf = true) (hh : Heads w (.slice va nv vc) nv A (fun j => (VL j).length) C) (hvr : ∀ i, i < nv → Rd w (.slice (A i) (VL i).length (C i)) (VL i))
    (hs : Rd w (.slice sa ns cs) sl) (hl : Rd w (.slice la nl lc) ll) (hnk0 : nk ≤ 9223372036854775807) (hnv0 : nv ≤ 9223372036854775807) (hns0 : ns ≤ 9223372036854775807) (hnl0 : nl ≤ 9223372036854775807)
    (h5 : Calls Try.prog 5 #[.slice ak nk ck, .slice va nv vc, .slice sa ns cs, .int .i64 key, .slice la nl lc] w fun e w' => BoolQ e ∧ w' = w)
    (h6 : ∀ t : Int, 0 ≤ t → t ≤ 9223372036854775807 → Calls Try.prog 6 #[.slice va nv vc, .int .i64 t] w fun e w' => NestedQ nv (fun j => (VL j).length) e ∧ w' = w) :
    Calls Try.prog 3 #[.slice ak nk ck, .slice va nv vc, .slice sa ns cs, .int .i64 key, .slice la nl lc] w fun e w' => e = .returned (.bool true) ∧ Below w.heap.size w w' := by
  have H5 := hidIt h5
  have H6 := hidIt h6
  have HKr := hidIt hk
  have HWf := hidIt hwf
  have HH := hidIt hh
  have HVr := hidIt hvr
  have HS := hidIt hs
  have HL := hidIt hl
  have HNs : Hid (ns = sl.length) := by obtain ⟨a, c, he, _⟩ := hs; simp only [Value.slice.injEq] at he; exact he.2.1
  have HNl : Hid (nl = ll.length) := by obtain ⟨a, c, he, _⟩ := hl; simp only [Value.slice.injEq] at he; exact he.2.1
  clear h5 h6 hk hwf hh hvr hs hl
  by_cases t1 : 65536 < nk
  · go_enter Try.func3, Try.ntmps3
    go_wp2_with (go_at_call 5; refine H5.out.mono ?_; rintro e w1 ⟨⟨r, rfl⟩, hw1⟩; have hw2 := hw1.symm; clear hw1; subst hw2; cases r)
    all_goals
      go_ret
      exact ⟨rfl, Below.refl _ _⟩
  by_cases t2 : 65536 < nv
  · go_enter Try.func3, Try.ntmps3
    go_wp2_with (go_at_call 5; refine H5.out.mono ?_; rintro e w1 ⟨⟨r, rfl⟩, hw1⟩; have hw2 := hw1.symm; clear hw1; subst hw2; cases r)
    all_goals
      go_ret
      exact ⟨rfl, Below.refl _ _⟩
  by_cases t3 : 65536 < ns
  · go_enter Try.func3, Try.ntmps3
    go_wp2_with (go_at_call 5; refine H5.out.mono ?_; rintro e w1 ⟨⟨r, rfl⟩, hw1⟩; have hw2 := hw1.symm; clear hw1; subst hw2; cases r)
    all_goals
      go_ret
      exact ⟨rfl, Below.refl _ _⟩
  by_cases t4 : 65536 < nl
  · go_enter Try.func3, Try.ntmps3
    go_wp2_with (go_at_call 5; refine H5.out.mono ?_; rintro e w1 ⟨⟨r, rfl⟩, hw1⟩; have hw2 := hw1.symm; clear hw1; subst hw2; cases r)
    all_goals
      go_ret
      exact ⟨rfl, Below.refl _ _⟩
  have hnk : nk ≤ 65536 := by omega
  have hmm := @run_makeMap Try.prog
  have q22 : ∀ (w : World) (a : Option Addr) (n c : Nat), (binOp .eql 22 (.slice a n c) (.slice none 0 0)).run Try.prog w = .ok (.bool a.isNone) w := fun w a n c => Lib.run_eql_slice_nil w 22 2 a n c 0 0 Try.underlying22
  go_enter Try.func3, Try.ntmps3
  go_upto_block 0 with (first | (go_at_call 5; refine H5.out.mono ?_; rintro e w1 ⟨⟨r, rfl⟩, hw1⟩; have hw2 := hw1.symm; clear hw1; subst hw2; cases r) | (go_at_call 6; refine (H6.out _ (by omega) (by omega)).mono ?_; rintro e w1 ⟨⟨r, rfl, hr⟩, hw1⟩; have hw2 := hw1.symm; clear hw1; subst hw2; cases r))
  · go_ret
    exact ⟨rfl, Below.refl _ _⟩
  · go_ret
    exact ⟨rfl, Below.refl _ _⟩
  have hvl := hr trivial
  clear hr
  refine tloop _ (by kernel_rfl) w _ HKr.out HWf.out HH.out HVr.out hvl hnk (by omega) ⟨_, _, 0, Nat.le_refl _, tmid_start w, fun k => rfl⟩ ?_
  intro u13 u14 u72 u73 u74 u75 u76 u77 u78 u79 u80 u81 u82 u83 u84 u85 u86 u87 u88 u89 u90 u91 u92 u93 u94 u95 u96 u97 u98 u99 wA hTA
  obtain ⟨F, Fr, c, hc, hT, hpl⟩ := hTA
  have hcc : c ≤ 65536 := by omega
  have HT := hidIt hT
  have HPl := hidIt hpl
  have HCs := hidIt (clone_any (HS.out.later hT.below) (by have := HNs.out; omega))
  clear hT hpl hvl H5 H6 HH HVr hc
  go_wp2_with fail
  refine HCs.out.mono ?_
  rintro e wB ⟨aB, cB, rfl, oB, bB, nB, zB⟩
  have HoB := hidIt oB
  have HbB := hidIt bB
  have HnB := hidIt nB
  have HzB := hidIt zB
  have HCs2 := hidIt (clone_any (HS.out.later (HT.out.below.trans (bB.mono HT.out.below.size))) (by have := HNs.out; omega))
  clear oB bB nB zB HCs
  go_wp2_with fail
  refine HCs2.out.mono ?_
  rintro e wC ⟨aC, cC, rfl, oC, bC, nC, zC⟩
  have HoC := hidIt oC
  have HbC := hidIt bC
  have HnC := hidIt nC
  have HZ : Hid (aB.isNone = aC.isNone) := HzB.out.trans zC.symm
  have HbAC : Hid (Below w.heap.size w wC) := (HT.out.below.trans (HbB.out.mono HT.out.below.size)).trans (bC.mono (by have := HT.out.below.size; have := HbB.out.size; omega))
  have HCl := hidIt (clone_any (HL.out.later HbAC.out) (by have := HNl.out; omega))
  clear oC bC nC zC HCs2 HzB
  go_wp2_with fail
  refine HCl.out.mono ?_
  rintro e wD ⟨aD, cD, heD, oD, bD, nD, _⟩
  subst heD
  have HoD := hidIt oD
  have HbD := hidIt bD
  have HnD := hidIt nD
  have HbAD : Hid (Below w.heap.size w wD) := HbAC.out.trans (bD.mono HbAC.out.size)
  have HCl2 := hidIt (clone_any (HL.out.later HbAD.out) (by have := HNl.out; omega))
  clear oD bD nD HCl
  go_wp2_with fail
  refine HCl2.out.mono ?_
  rintro e wE ⟨aE, cE, heE, oE, bE, nE, _⟩
  subst heE
  have HoE := hidIt oE
  have HbE := hidIt bE
  have HnE := hidIt nE
  have HbAE : Hid (Below w.heap.size w wE) := HbAD.out.trans (bE.mono HbAD.out.size)
  clear oE bE nE HCl2
  -- what lies behind the clones
  have HTS : Hid (∀ m, TS w ((wE.drewN m).alloc (.cells #[.map (some w.heap.size), .slice aB sl.length cB] 40)) wE.heap.size (.slice aB sl.length cB) F Fr c sl ll (.slice aC sl.length cC) (.slice aD ll.length cD) (.slice aE ll.length cE)) := fun m =>
    ts_made (j := 0) HT.out HPl.out HbB.out HoB.out HnB.out HbC.out HoC.out HnC.out HbD.out HoD.out HnD.out HbE.out HoE.out HnE.out m
  have HTE : Hid (TMid w wE F Fr c c) := (((HT.out.later HbB.out).later HbC.out).later HbD.out).later HbE.out
  have HLb : Hid (ll.length * 8 ≤ 140737488355328) := by have := HNl.out; show _ ≤ _; omega
  have HWr : Hid (Own wE (.slice aE ll.length cE) ll) := HoE.out
  obtain ⟨oa, oc, hoe⟩ := rd_shape (HTE.out.rr key).1.rd
  have HOe := hidIt hoe
  have HOr : Hid (Rd wE (.slice oa (entL Fr key).length oc) (entL Fr key)) := by have := (HTE.out.rr key).1.rd; rw [hoe] at this; exact this
  have hlkr := HTE.out.mr.look_ok Try.underlying26 (zero22 wE) hkey
  have hlkr2 : (Instr.lookup 26 (.map (some (w.heap.size + 1))) (.int .i64 key) true).run Try.prog wE = .ok (.tuple #[.slice oa (entL Fr key).length oc, .bool (Fr key).isSome]) wE := by
    have e : ((Fr key).map Prod.fst).getD (.slice none 0 0) = .slice oa (entL Fr key).length oc := hoe
    rw [e] at hlkr
    simpa using hlkr
  obtain ⟨hd, hhd⟩ : ∃ x, x = (Fr key).isSome := ⟨_, rfl⟩
  obtain ⟨Lo, hLo⟩ : ∃ x, x = (entL Fr key).length := ⟨_, rfl⟩
  obtain ⟨Ll, hLl⟩ : ∃ x, x = ll.length := ⟨_, rfl⟩
  have HHd := hidIt hhd
  have HLo := hidIt hLo
  have HLl : Hid (ll.length = Ll) := hLl.symm
  have HEL : Hid (entL F key = entL Fr key) := entL_eq HPl.out key
  rw [← hhd, ← hLo] at hlkr2
  rw [← hLl] at HTS HWr ⊢
  rw [← hLo] at HOe HOr
  clear hhd hLo hLl hoe hlkr HT HbB HoB HnB HbC HoC HnC HbD HoD HnD HbE HoE HnE HbAC HbAD HS HL HNs
  have hlr : ∀ m, (Builtin.len_ #[26] 3 #[.map (some (w.heap.size + 1))]).run Try.prog (wE.drewN m) = .ok (.int .i64 c) (wE.drewN m) := fun m => (HTE.out.drew m).mr.len Try.underlying26 3
  have hlr0 : (Builtin.len_ #[26] 3 #[.map (some (w.heap.size + 1))]).run Try.prog wE = .ok (.int .i64 c) wE := HTE.out.mr.len Try.underlying26 3
  have hLlb : Ll ≤ 65536 := by have := HNl.out; have := HLl.out; omega
  by_cases hE : ll = []
  · -- nothing is kept
    subst hE
    obtain rfl : Ll = 0 := by have := HLl.out; simpa using this.symm
    have HID : Hid (([] : List Int) = [] ∨ agr [] (entL F key) = false ∨ ([] : List Int).length ≤ (entL F key).length) := .inl rfl
    go_wp2_with fail
    refine (newlists_any _ _ _ _ _).mono ?_
    rintro e wF ⟨rfl, hwF⟩
    have HTSF : Hid (TS w wF wE.heap.size (.slice aB sl.length cB) F Fr c sl [] (.slice aC sl.length cC) (.slice aD 0 cD) (.slice aE 0 cE)) := by rw [hwF]; exact HTS.out 0
    clear hwF HTS
    have HC10 := hidIt (keep_idle HTSF.out.st hkey (by simp only [maxLen]; omega) HTSF.out.hlst.1.rd HLb.out (.inl rfl))
    go_wp2_with fail
    refine HC10.out.mono ?_
    rintro e w1 ⟨g1, c1, he1, hr1, hb1, hsh1, hns1⟩
    rw [HLl.out] at he1 hr1
    subst he1
    have HTP1 : Hid (TP w w1 wE.heap.size (.slice aB sl.length cB) F c Fr c key sl [] (.slice aC sl.length cC) (.slice aD 0 cD) (.slice aE 0 cE) (.slice oa Lo oc) hd) := by
      have := ts_idle HTSF.out hb1 key
      rw [HOe.out, ← HHd.out] at this
      exact this
    have HR1 : Hid (Rd w1 (.slice (some ⟨g1, 0, none⟩) 0 c1) []) := hr1
    have HS1 := hidIt hsh1
    have HN1 : Hid (¬ (([] : List Int) ≠ [] ∧ agr [] (entL F key) = true) → ∀ k v xs, F k = some (v, xs) → v.ownBlock ≠ some g1) := fun hh k v xs hF hg => by
      have q1 := hns1 hh
      have q2 := (HTSF.out.st.own k v xs hF).lt hg
      omega
    have HNm : Hid (c < maxLen) := by show _ < _; simp only [maxLen]; omega
    have HNn : Hid (c = c) := rfl
    clear HC10 HTSF hr1 hb1 hsh1 hns1
    have HC11 := hidIt (same_true HR1.out HTP1.out.hwnt.rd)
    go_wp2_with fail
    refine HC11.out.mono ?_
    rintro e w2 ⟨rfl, hb2⟩
    have HTP2 : Hid (TP w w2 wE.heap.size (.slice aB sl.length cB) F c Fr c key sl [] (.slice aC sl.length cC) (.slice aD 0 cD) (.slice aE 0 cE) (.slice oa Lo oc) hd) := HTP1.out.later hb2
    have HR1b : Hid (Rd w2 (.slice (some ⟨g1, 0, none⟩) 0 c1) []) := HR1.out.later hb2
    clear HC11 HTP1 HR1 hb2
    have hlm2 : (Builtin.len_ #[26] 3 #[.map (some w.heap.size)]).run Try.prog w2 = .ok (.int .i64 c) w2 := by
      have := HTP2.out.st.map.len Try.underlying26 3
      first | exact this | (rw [HNn.out] at this; exact this) | simpa using this
    have HC12 := hidIt (state_any (HKr.out.later HTP2.out.below) hnk HWf.out hkey HTP2.out.ask)
    go_wp2_with fail
    refine HC12.out.mono ?_
    rintro e w3 ⟨rfl, hb3⟩
    have HTP3 : Hid (TP w w3 wE.heap.size (.slice aB sl.length cB) F c Fr c key sl [] (.slice aC sl.length cC) (.slice aD 0 cD) (.slice aE 0 cE) (.slice oa Lo oc) hd) := HTP2.out.later hb3
    have HR1c : Hid (Rd w3 (.slice (some ⟨g1, 0, none⟩) 0 c1) []) := HR1b.out.later hb3
    clear HC12 HTP2 HR1b hb3 hlm2
    have HC10 := hidIt (keep_idle HTP3.out.st hkey (by first | exact HNm.out | (have := HNm.out; simpa using this)) HTP3.out.hlst HLb.out (.inl rfl))
    go_wp2_with fail
    refine HC10.out.mono ?_
    rintro e w4 ⟨g2, c2, he4, hr4, hb4, hsh4, hns4⟩
    rw [HLl.out] at he4 hr4
    subst he4
    have HTP4 : Hid (TP w w4 wE.heap.size (.slice aB sl.length cB) F c Fr c key sl [] (.slice aC sl.length cC) (.slice aD 0 cD) (.slice aE 0 cE) (.slice oa Lo oc) hd) := HTP3.out.later hb4
    have HR1d : Hid (Rd w4 (.slice (some ⟨g1, 0, none⟩) 0 c1) []) := HR1c.out.later hb4
    have HR2 : Hid (Rd w4 (.slice (some ⟨g2, 0, none⟩) 0 c2) []) := hr4
    have HS2 := hidIt hsh4
    have HN2 : Hid (¬ (([] : List Int) ≠ [] ∧ agr [] (entL F key) = true) → ∀ k v xs, F k = some (v, xs) → v.ownBlock ≠ some g2) := fun hh k v xs hF hg => by
      have q1 := hns4 hh
      have q2 := (HTP3.out.st.own k v xs hF).lt hg
      omega
    clear HC10 HTP3 HR1c hb4 hr4 hsh4 hns4
    have HC11 := hidIt (same_true HR2.out HTP4.out.hwnt.rd)
    go_wp2_with fail
    refine HC11.out.mono ?_
    rintro e w5 ⟨rfl, hb5⟩
    have HTP5 : Hid (TP w w5 wE.heap.size (.slice aB sl.length cB) F c Fr c key sl [] (.slice aC sl.length cC) (.slice aD 0 cD) (.slice aE 0 cE) (.slice oa Lo oc) hd) := HTP4.out.later hb5
    have HR1e : Hid (Rd w5 (.slice (some ⟨g1, 0, none⟩) 0 c1) []) := HR1d.out.later hb5
    have HR2b : Hid (Rd w5 (.slice (some ⟨g2, 0, none⟩) 0 c2) []) := HR2.out.later hb5
    clear HC11 HTP4 HR1d HR2 hb5
    have hlm5 : (Builtin.len_ #[26] 3 #[.map (some w.heap.size)]).run Try.prog w5 = .ok (.int .i64 c) w5 := by
      have := HTP5.out.st.map.len Try.underlying26 3
      first | exact this | (rw [HNn.out] at this; exact this) | simpa using this
    have HC12 := hidIt (state_any (HKr.out.later HTP5.out.below) hnk HWf.out hkey HTP5.out.ask)
    go_wp2_with fail
    refine HC12.out.mono ?_
    rintro e w6 ⟨rfl, hb6⟩
    have HTP6 : Hid (TP w w6 wE.heap.size (.slice aB sl.length cB) F c Fr c key sl [] (.slice aC sl.length cC) (.slice aD 0 cD) (.slice aE 0 cE) (.slice oa Lo oc) hd) := HTP5.out.later hb6
    have HR1f : Hid (Rd w6 (.slice (some ⟨g1, 0, none⟩) 0 c1) []) := HR1e.out.later hb6
    have HR2c : Hid (Rd w6 (.slice (some ⟨g2, 0, none⟩) 0 c2) []) := HR2b.out.later hb6
    clear HC12 HTP5 HR1e HR2b hb6 hlm5
    have HC13 := hidIt (scratch_any wE.heap.size aB sl.length cB w6 (by simp [World.cell?, HTP6.out.st.cells]))
    have HC11 := hidIt (same_true HTP6.out.hsc HTP6.out.hscr)
    have hz : (aB.isNone == aC.isNone) = true := by rw [HZ.out]; simp
    have hz2 : (aB.isNone != aC.isNone) = false := by rw [HZ.out]; simp
    go_wp2_with fail
    refine HC13.out.mono ?_
    rintro e w6' ⟨rfl, hw6⟩
    subst hw6
    go_wp2_with fail
    refine HC11.out.mono ?_
    rintro e w7 ⟨rfl, hb7⟩
    have HTP7 : Hid (TP w w7 wE.heap.size (.slice aB sl.length cB) F c Fr c key sl [] (.slice aC sl.length cC) (.slice aD 0 cD) (.slice aE 0 cE) (.slice oa Lo oc) hd) := HTP6.out.later hb7
    have HR1g : Hid (Rd w7 (.slice (some ⟨g1, 0, none⟩) 0 c1) []) := HR1f.out.later hb7
    have HR2d : Hid (Rd w7 (.slice (some ⟨g2, 0, none⟩) 0 c2) []) := HR2c.out.later hb7
    clear HC11 HC13 HTP6 HR1f HR2c hb7 hz hz2
    go_wp2_with fail
    go_ret
    exact ⟨rfl, HTP7.out.below⟩
  obtain ⟨gw, rfl⟩ : ∃ gw, aE = some ⟨gw, 0, none⟩ := by
    rcases HWr.out.form with ⟨q, q2⟩ | ⟨g, cap, q, _⟩
    · exact absurd q2 hE
    · simp only [Value.slice.injEq] at q
      exact ⟨g, q.1⟩
  have HNe := hidIt hE
  have hpos : 0 < Ll := by have := List.length_pos_iff.2 hE; have := HLl.out; omega
  clear hE
  cases hag : agr ll (entL Fr key) with
  | false =>
    have HID : Hid (ll = [] ∨ agr ll (entL F key) = false ∨ ll.length ≤ (entL F key).length) := .inr (.inl (by rw [HEL.out]; exact hag))
    have HA8 := hidIt (agree_at HWr.out.rd HOr.out hag)
    go_wp2_with fail
    refine HA8.out.mono ?_
    rintro e wx ⟨rfl, m8, hwx⟩
    subst hwx
    go_wp2_with fail
    refine (newlists_any _ _ _ _ _).mono ?_
    rintro e wF ⟨rfl, hwF⟩
    have HTSF : Hid (TS w wF wE.heap.size (.slice aB sl.length cB) F Fr c sl ll (.slice aC sl.length cC) (.slice aD Ll cD) (.slice (some ⟨gw, 0, none⟩) Ll cE)) := by rw [hwF]; exact HTS.out m8
    clear hwF HTS
    have HC10 := hidIt (keep_idle HTSF.out.st hkey (by simp only [maxLen]; omega) HTSF.out.hlst.1.rd HLb.out HID.out)
    go_wp2_with fail
    refine HC10.out.mono ?_
    rintro e w1 ⟨g1, c1, he1, hr1, hb1, hsh1, hns1⟩
    rw [HLl.out] at he1 hr1
    subst he1
    have HTP1 : Hid (TP w w1 wE.heap.size (.slice aB sl.length cB) F c Fr c key sl ll (.slice aC sl.length cC) (.slice aD Ll cD) (.slice (some ⟨gw, 0, none⟩) Ll cE) (.slice oa Lo oc) hd) := by
      have := ts_idle HTSF.out hb1 key
      rw [HOe.out, ← HHd.out] at this
      exact this
    have HR1 : Hid (Rd w1 (.slice (some ⟨g1, 0, none⟩) Ll c1) ll) := hr1
    have HS1 := hidIt hsh1
    have HN1 : Hid (¬ (ll ≠ [] ∧ agr ll (entL F key) = true) → ∀ k v xs, F k = some (v, xs) → v.ownBlock ≠ some g1) := fun hh k v xs hF hg => by
      have q1 := hns1 hh
      have q2 := (HTSF.out.st.own k v xs hF).lt hg
      omega
    have HNm : Hid (c < maxLen) := by show _ < _; simp only [maxLen]; omega
    have HNn : Hid (c = c) := rfl
    clear HC10 HTSF hr1 hb1 hsh1 hns1
    have HC11 := hidIt (same_true HR1.out HTP1.out.hwnt.rd)
    go_wp2_with fail
    refine HC11.out.mono ?_
    rintro e w2 ⟨rfl, hb2⟩
    have HTP2 : Hid (TP w w2 wE.heap.size (.slice aB sl.length cB) F c Fr c key sl ll (.slice aC sl.length cC) (.slice aD Ll cD) (.slice (some ⟨gw, 0, none⟩) Ll cE) (.slice oa Lo oc) hd) := HTP1.out.later hb2
    have HR1b : Hid (Rd w2 (.slice (some ⟨g1, 0, none⟩) Ll c1) ll) := HR1.out.later hb2
    clear HC11 HTP1 HR1 hb2
    have hlm2 : (Builtin.len_ #[26] 3 #[.map (some w.heap.size)]).run Try.prog w2 = .ok (.int .i64 c) w2 := by
      have := HTP2.out.st.map.len Try.underlying26 3
      first | exact this | (rw [HNn.out] at this; exact this) | simpa using this
    have HC12 := hidIt (state_any (HKr.out.later HTP2.out.below) hnk HWf.out hkey HTP2.out.ask)
    go_wp2_with fail
    refine HC12.out.mono ?_
    rintro e w3 ⟨rfl, hb3⟩
    have HTP3 : Hid (TP w w3 wE.heap.size (.slice aB sl.length cB) F c Fr c key sl ll (.slice aC sl.length cC) (.slice aD Ll cD) (.slice (some ⟨gw, 0, none⟩) Ll cE) (.slice oa Lo oc) hd) := HTP2.out.later hb3
    have HR1c : Hid (Rd w3 (.slice (some ⟨g1, 0, none⟩) Ll c1) ll) := HR1b.out.later hb3
    clear HC12 HTP2 HR1b hb3 hlm2
    have HC10 := hidIt (keep_idle HTP3.out.st hkey (by first | exact HNm.out | (have := HNm.out; simpa using this)) HTP3.out.hlst HLb.out HID.out)
    go_wp2_with fail
    refine HC10.out.mono ?_
    rintro e w4 ⟨g2, c2, he4, hr4, hb4, hsh4, hns4⟩
    rw [HLl.out] at he4 hr4
    subst he4
    have HTP4 : Hid (TP w w4 wE.heap.size (.slice aB sl.length cB) F c Fr c key sl ll (.slice aC sl.length cC) (.slice aD Ll cD) (.slice (some ⟨gw, 0, none⟩) Ll cE) (.slice oa Lo oc) hd) := HTP3.out.later hb4
    have HR1d : Hid (Rd w4 (.slice (some ⟨g1, 0, none⟩) Ll c1) ll) := HR1c.out.later hb4
    have HR2 : Hid (Rd w4 (.slice (some ⟨g2, 0, none⟩) Ll c2) ll) := hr4
    have HS2 := hidIt hsh4
    have HN2 : Hid (¬ (ll ≠ [] ∧ agr ll (entL F key) = true) → ∀ k v xs, F k = some (v, xs) → v.ownBlock ≠ some g2) := fun hh k v xs hF hg => by
      have q1 := hns4 hh
      have q2 := (HTP3.out.st.own k v xs hF).lt hg
      omega
    clear HC10 HTP3 HR1c hb4 hr4 hsh4 hns4
    have HC11 := hidIt (same_true HR2.out HTP4.out.hwnt.rd)
    go_wp2_with fail
    refine HC11.out.mono ?_
    rintro e w5 ⟨rfl, hb5⟩
    have HTP5 : Hid (TP w w5 wE.heap.size (.slice aB sl.length cB) F c Fr c key sl ll (.slice aC sl.length cC) (.slice aD Ll cD) (.slice (some ⟨gw, 0, none⟩) Ll cE) (.slice oa Lo oc) hd) := HTP4.out.later hb5
    have HR1e : Hid (Rd w5 (.slice (some ⟨g1, 0, none⟩) Ll c1) ll) := HR1d.out.later hb5
    have HR2b : Hid (Rd w5 (.slice (some ⟨g2, 0, none⟩) Ll c2) ll) := HR2.out.later hb5
    clear HC11 HTP4 HR1d HR2 hb5
    have hlm5 : (Builtin.len_ #[26] 3 #[.map (some w.heap.size)]).run Try.prog w5 = .ok (.int .i64 c) w5 := by
      have := HTP5.out.st.map.len Try.underlying26 3
      first | exact this | (rw [HNn.out] at this; exact this) | simpa using this
    have HC12 := hidIt (state_any (HKr.out.later HTP5.out.below) hnk HWf.out hkey HTP5.out.ask)
    go_wp2_with fail
    refine HC12.out.mono ?_
    rintro e w6 ⟨rfl, hb6⟩
    have HTP6 : Hid (TP w w6 wE.heap.size (.slice aB sl.length cB) F c Fr c key sl ll (.slice aC sl.length cC) (.slice aD Ll cD) (.slice (some ⟨gw, 0, none⟩) Ll cE) (.slice oa Lo oc) hd) := HTP5.out.later hb6
    have HR1f : Hid (Rd w6 (.slice (some ⟨g1, 0, none⟩) Ll c1) ll) := HR1e.out.later hb6
    have HR2c : Hid (Rd w6 (.slice (some ⟨g2, 0, none⟩) Ll c2) ll) := HR2b.out.later hb6
    clear HC12 HTP5 HR1e HR2b hb6 hlm5
    have HC13 := hidIt (scratch_any wE.heap.size aB sl.length cB w6 (by simp [World.cell?, HTP6.out.st.cells]))
    have HC11 := hidIt (same_true HTP6.out.hsc HTP6.out.hscr)
    have hz : (aB.isNone == aC.isNone) = true := by rw [HZ.out]; simp
    have hz2 : (aB.isNone != aC.isNone) = false := by rw [HZ.out]; simp
    go_wp2_with fail
    refine HC13.out.mono ?_
    rintro e w6' ⟨rfl, hw6⟩
    subst hw6
    go_wp2_with fail
    refine HC11.out.mono ?_
    rintro e w7 ⟨rfl, hb7⟩
    have HTP7 : Hid (TP w w7 wE.heap.size (.slice aB sl.length cB) F c Fr c key sl ll (.slice aC sl.length cC) (.slice aD Ll cD) (.slice (some ⟨gw, 0, none⟩) Ll cE) (.slice oa Lo oc) hd) := HTP6.out.later hb7
    have HR1g : Hid (Rd w7 (.slice (some ⟨g1, 0, none⟩) Ll c1) ll) := HR1f.out.later hb7
    have HR2d : Hid (Rd w7 (.slice (some ⟨g2, 0, none⟩) Ll c2) ll) := HR2c.out.later hb7
    clear HC11 HC13 HTP6 HR1f HR2c hb7 hz hz2
    have hnag : ¬ (ll ≠ [] ∧ agr ll (entL F key) = true) := by rw [HEL.out, hag]; simp
    have hxne : entL F key ≠ [] := by intro e; rw [← HEL.out, e, agr_nil_right] at hag; cases hag
    obtain ⟨ge, cx, hev⟩ : ∃ ge cx, entV F key = .slice (some ⟨ge, 0, none⟩) (entL F key).length cx := by
      rcases (HTP7.out.st.ent key).form with ⟨_, q2⟩ | ⟨g, cap, q, _⟩
      · exact absurd q2 hxne
      · exact ⟨g, cap, q⟩
    have hFk0 : F key = some (.slice (some ⟨ge, 0, none⟩) (entL F key).length cx, entL F key) := by
      cases hF : F key with
      | none => simp [entV, hF] at hev
      | some p =>
        have q1 : p.1 = .slice (some ⟨ge, 0, none⟩) (entL F key).length cx := by simpa [entV, hF] using hev
        have q2 : entL F key = p.2 := by simp [entL, hF]
        rw [← q1, q2]
    have HFk := hidIt hFk0
    clear hFk0
    have HBz : Hid (∀ (v : Value) (n : Nat), Below w.heap.size w ((w7.setCell ⟨ge, 0, none⟩ v).drewN n)) := fun v n => by
      have hg : w.heap.size ≤ ge := by have := HTP7.out.new key _ _ HFk.out ge rfl; omega
      have hb := HTP7.out.below.setCell (p := ⟨ge, 0, none⟩) hg v
      exact ⟨hb.os, hb.tape, hb.output, hb.size, hb.block⟩
    have hlk7 := HTP7.out.st.look hkey
    rw [hev] at hlk7
    obtain ⟨hc0, hf0, hLx⟩ := own_head (HTP7.out.st.own key _ _ HFk.out) hxne
    obtain ⟨hw0, _, _⟩ := own_head HTP7.out.hwnt HNe.out
    have hr10 := rd_head HR1g.out HNe.out
    have hr20 := rd_head HR2d.out HNe.out
    have hn1 : g1 ≠ ge := fun e => HN1.out hnag key _ _ HFk.out (by rw [e]; rfl)
    have hn2 : g2 ≠ ge := fun e => HN2.out hnag key _ _ HFk.out (by rw [e]; rfl)
    have hnw : gw ≠ ge := fun e => HTP7.out.far gw rfl key _ _ HFk.out (by rw [e]; rfl)
    obtain ⟨Lx, hLx2⟩ : ∃ y, y = (entL F key).length := ⟨_, rfl⟩
    obtain ⟨x0, hx0⟩ : ∃ y, y = (entL F key)[0]?.getD 0 := ⟨_, rfl⟩
    obtain ⟨y0, hy0⟩ : ∃ y, y = ll[0]?.getD 0 := ⟨_, rfl⟩
    rw [← hLx2] at hlk7 hLx
    rw [← hx0] at hc0
    rw [← hy0] at hw0 hr10 hr20
    have hs1 : ∀ v, (w7.setCell ⟨ge, 0, none⟩ v).cell? ⟨g1, 0, none⟩ = some (.int .i64 y0) := fun v => (World.cell?_setCell_other _ _ _ _ (by intro h; simp only [Addr.mk.injEq] at h; omega)).trans hr10
    have hs2 : ∀ v, (w7.setCell ⟨ge, 0, none⟩ v).cell? ⟨g2, 0, none⟩ = some (.int .i64 y0) := fun v => (World.cell?_setCell_other _ _ _ _ (by intro h; simp only [Addr.mk.injEq] at h; omega)).trans hr20
    have hsw : ∀ v, (w7.setCell ⟨ge, 0, none⟩ v).cell? ⟨gw, 0, none⟩ = some (.int .i64 y0) := fun v => (World.cell?_setCell_other _ _ _ _ (by intro h; simp only [Addr.mk.injEq] at h; omega)).trans hw0
    clear HTP7 HR1g HR2d HN1 HN2 HS1 HS2 HFk hnag hxne hev hLx2 hx0 hy0 hag HEL HID HNe HTE HWr HOr HOe hr10 hr20 hw0
    go_wp2_with fail
    go_quiet (fail)
    go_wp2_with fail
    go_ret
    exact ⟨rfl, HBz.out _ _⟩
  | true =>
    rcases Nat.lt_or_ge Lo Ll with hlt | hge
    · cases hd with
      | true =>
        have HA8 := hidIt (agree_at HWr.out.rd HOr.out hag)
        go_wp2_with fail
        refine HA8.out.mono ?_
        rintro e wx ⟨rfl, m8, hwx⟩
        subst hwx
        go_wp2_with fail
        refine (newlists_any _ _ _ _ _).mono ?_
        rintro e wF ⟨rfl, hwF⟩
        have HTSF : Hid (TS w wF wE.heap.size (.slice aB sl.length cB) F Fr c sl ll (.slice aC sl.length cC) (.slice aD Ll cD) (.slice (some ⟨gw, 0, none⟩) Ll cE)) := by rw [hwF]; exact HTS.out m8
        clear hwF HTS
        have HC10 := hidIt (keep_more HTSF.out.st hkey (by simp only [maxLen]; omega) HTSF.out.hlst.1.rd HLb.out (by rw [HEL.out]; exact hag) (by rw [HEL.out, HLl.out, ← HLo.out]; exact hlt))
        go_wp2_with fail
        refine HC10.out.mono ?_
        intro e w1 hq1
        obtain ⟨g1, cap1, he1, hev0, heL0, hTP0⟩ := ts_more HTSF.out hq1
        rw [HLl.out] at he1
        subst he1
        have HNm : Hid (c < maxLen) := by show _ < _; simp only [maxLen]; omega
        have HNn : Hid (c = c) := rfl
        have HTP1 : Hid (TP w w1 wE.heap.size (.slice aB sl.length cB) (upd F key (.slice (some ⟨g1, 0, none⟩) ll.length cap1, ll)) c Fr c key sl ll (.slice aC sl.length cC) (.slice aD Ll cD) (.slice (some ⟨gw, 0, none⟩) Ll cE) (.slice (some ⟨gw, 0, none⟩) Ll cE) true) := by
          have := hTP0
          rw [← HHd.out] at this
          exact this
        have HR1 : Hid (Rd w1 (.slice (some ⟨g1, 0, none⟩) Ll Ll) ll) := by
          have ho := HTP1.out.st.ent key
          rw [hev0, heL0] at ho
          have hr := ho.begins_rd (n := ll.length) (c := ll.length) (Nat.le_refl _) (Nat.le_refl _) (by have := HLl.out; omega)
          rw [List.take_of_length_le (Nat.le_refl _), HLl.out] at hr
          exact hr
        have HEv : Hid (entV (upd F key (.slice (some ⟨g1, 0, none⟩) ll.length cap1, ll)) key = .slice (some ⟨g1, 0, none⟩) ll.length cap1) := hev0
        have HEl : Hid (entL (upd F key (.slice (some ⟨g1, 0, none⟩) ll.length cap1, ll)) key = ll) := heL0
        have HID : Hid (ll = [] ∨ agr ll (entL (upd F key (.slice (some ⟨g1, 0, none⟩) ll.length cap1, ll)) key) = false ∨ ll.length ≤ (entL (upd F key (.slice (some ⟨g1, 0, none⟩) ll.length cap1, ll)) key).length) := .inr (.inr (by rw [heL0]; exact Nat.le_refl _))
        clear HC10 HTSF hq1 hev0 heL0 hTP0
        have HC11 := hidIt (same_true HR1.out HTP1.out.hwnt.rd)
        go_wp2_with fail
        refine HC11.out.mono ?_
        rintro e w2 ⟨rfl, hb2⟩
        have HTP2 : Hid (TP w w2 wE.heap.size (.slice aB sl.length cB) (upd F key (.slice (some ⟨g1, 0, none⟩) ll.length cap1, ll)) c Fr c key sl ll (.slice aC sl.length cC) (.slice aD Ll cD) (.slice (some ⟨gw, 0, none⟩) Ll cE) (.slice (some ⟨gw, 0, none⟩) Ll cE) true) := HTP1.out.later hb2
        have HR1b : Hid (Rd w2 (.slice (some ⟨g1, 0, none⟩) Ll Ll) ll) := HR1.out.later hb2
        clear HC11 HTP1 HR1 hb2
        have hlm2 : (Builtin.len_ #[26] 3 #[.map (some w.heap.size)]).run Try.prog w2 = .ok (.int .i64 c) w2 := by
          have := HTP2.out.st.map.len Try.underlying26 3
          first | exact this | (rw [HNn.out] at this; exact this) | simpa using this
        have HC12 := hidIt (state_any (HKr.out.later HTP2.out.below) hnk HWf.out hkey HTP2.out.ask)
        go_wp2_with fail
        refine HC12.out.mono ?_
        rintro e w3 ⟨rfl, hb3⟩
        have HTP3 : Hid (TP w w3 wE.heap.size (.slice aB sl.length cB) (upd F key (.slice (some ⟨g1, 0, none⟩) ll.length cap1, ll)) c Fr c key sl ll (.slice aC sl.length cC) (.slice aD Ll cD) (.slice (some ⟨gw, 0, none⟩) Ll cE) (.slice (some ⟨gw, 0, none⟩) Ll cE) true) := HTP2.out.later hb3
        have HR1c : Hid (Rd w3 (.slice (some ⟨g1, 0, none⟩) Ll Ll) ll) := HR1b.out.later hb3
        clear HC12 HTP2 HR1b hb3 hlm2
        have HC10 := hidIt (keep_idle HTP3.out.st hkey (by first | exact HNm.out | (have := HNm.out; simpa using this)) HTP3.out.hlst HLb.out HID.out)
        go_wp2_with fail
        refine HC10.out.mono ?_
        rintro e w4 ⟨g2, c2, he4, hr4, hb4, hsh4, hns4⟩
        rw [HLl.out] at he4 hr4
        subst he4
        have HTP4 : Hid (TP w w4 wE.heap.size (.slice aB sl.length cB) (upd F key (.slice (some ⟨g1, 0, none⟩) ll.length cap1, ll)) c Fr c key sl ll (.slice aC sl.length cC) (.slice aD Ll cD) (.slice (some ⟨gw, 0, none⟩) Ll cE) (.slice (some ⟨gw, 0, none⟩) Ll cE) true) := HTP3.out.later hb4
        have HR1d : Hid (Rd w4 (.slice (some ⟨g1, 0, none⟩) Ll Ll) ll) := HR1c.out.later hb4
        have HR2 : Hid (Rd w4 (.slice (some ⟨g2, 0, none⟩) Ll c2) ll) := hr4
        have HS2 := hidIt hsh4
        have HN2 : Hid (¬ (ll ≠ [] ∧ agr ll (entL (upd F key (.slice (some ⟨g1, 0, none⟩) ll.length cap1, ll)) key) = true) → ∀ k v xs, (upd F key (.slice (some ⟨g1, 0, none⟩) ll.length cap1, ll)) k = some (v, xs) → v.ownBlock ≠ some g2) := fun hh k v xs hF hg => by
          have q1 := hns4 hh
          have q2 := (HTP3.out.st.own k v xs hF).lt hg
          omega
        clear HC10 HTP3 HR1c hb4 hr4 hsh4 hns4
        have HC11 := hidIt (same_true HR2.out HTP4.out.hwnt.rd)
        go_wp2_with fail
        refine HC11.out.mono ?_
        rintro e w5 ⟨rfl, hb5⟩
        have HTP5 : Hid (TP w w5 wE.heap.size (.slice aB sl.length cB) (upd F key (.slice (some ⟨g1, 0, none⟩) ll.length cap1, ll)) c Fr c key sl ll (.slice aC sl.length cC) (.slice aD Ll cD) (.slice (some ⟨gw, 0, none⟩) Ll cE) (.slice (some ⟨gw, 0, none⟩) Ll cE) true) := HTP4.out.later hb5
        have HR1e : Hid (Rd w5 (.slice (some ⟨g1, 0, none⟩) Ll Ll) ll) := HR1d.out.later hb5
        have HR2b : Hid (Rd w5 (.slice (some ⟨g2, 0, none⟩) Ll c2) ll) := HR2.out.later hb5
        clear HC11 HTP4 HR1d HR2 hb5
        have hlm5 : (Builtin.len_ #[26] 3 #[.map (some w.heap.size)]).run Try.prog w5 = .ok (.int .i64 c) w5 := by
          have := HTP5.out.st.map.len Try.underlying26 3
          first | exact this | (rw [HNn.out] at this; exact this) | simpa using this
        have HC12 := hidIt (state_any (HKr.out.later HTP5.out.below) hnk HWf.out hkey HTP5.out.ask)
        go_wp2_with fail
        refine HC12.out.mono ?_
        rintro e w6 ⟨rfl, hb6⟩
        have HTP6 : Hid (TP w w6 wE.heap.size (.slice aB sl.length cB) (upd F key (.slice (some ⟨g1, 0, none⟩) ll.length cap1, ll)) c Fr c key sl ll (.slice aC sl.length cC) (.slice aD Ll cD) (.slice (some ⟨gw, 0, none⟩) Ll cE) (.slice (some ⟨gw, 0, none⟩) Ll cE) true) := HTP5.out.later hb6
        have HR1f : Hid (Rd w6 (.slice (some ⟨g1, 0, none⟩) Ll Ll) ll) := HR1e.out.later hb6
        have HR2c : Hid (Rd w6 (.slice (some ⟨g2, 0, none⟩) Ll c2) ll) := HR2b.out.later hb6
        clear HC12 HTP5 HR1e HR2b hb6 hlm5
        have HC13 := hidIt (scratch_any wE.heap.size aB sl.length cB w6 (by simp [World.cell?, HTP6.out.st.cells]))
        have HC11 := hidIt (same_true HTP6.out.hsc HTP6.out.hscr)
        have hz : (aB.isNone == aC.isNone) = true := by rw [HZ.out]; simp
        have hz2 : (aB.isNone != aC.isNone) = false := by rw [HZ.out]; simp
        go_wp2_with fail
        refine HC13.out.mono ?_
        rintro e w6' ⟨rfl, hw6⟩
        subst hw6
        go_wp2_with fail
        refine HC11.out.mono ?_
        rintro e w7 ⟨rfl, hb7⟩
        have HTP7 : Hid (TP w w7 wE.heap.size (.slice aB sl.length cB) (upd F key (.slice (some ⟨g1, 0, none⟩) ll.length cap1, ll)) c Fr c key sl ll (.slice aC sl.length cC) (.slice aD Ll cD) (.slice (some ⟨gw, 0, none⟩) Ll cE) (.slice (some ⟨gw, 0, none⟩) Ll cE) true) := HTP6.out.later hb7
        have HR1g : Hid (Rd w7 (.slice (some ⟨g1, 0, none⟩) Ll Ll) ll) := HR1f.out.later hb7
        have HR2d : Hid (Rd w7 (.slice (some ⟨g2, 0, none⟩) Ll c2) ll) := HR2c.out.later hb7
        clear HC11 HC13 HTP6 HR1f HR2c hb7 hz hz2
        have hagF : agr ll (entL (upd F key (.slice (some ⟨g1, 0, none⟩) ll.length cap1, ll)) key) = true := by rw [HEl.out]; exact agr_refl ll
        have hxne : entL (upd F key (.slice (some ⟨g1, 0, none⟩) ll.length cap1, ll)) key ≠ [] := by rw [HEl.out]; exact HNe.out
        obtain ⟨cx, hev⟩ : ∃ cx, entV (upd F key (.slice (some ⟨g1, 0, none⟩) ll.length cap1, ll)) key = .slice (some ⟨g1, 0, none⟩) (entL (upd F key (.slice (some ⟨g1, 0, none⟩) ll.length cap1, ll)) key).length cx := ⟨cap1, by rw [HEl.out]; exact HEv.out⟩
        clear HEv HEl
        have hFk0 : (upd F key (.slice (some ⟨g1, 0, none⟩) ll.length cap1, ll)) key = some (.slice (some ⟨g1, 0, none⟩) (entL (upd F key (.slice (some ⟨g1, 0, none⟩) ll.length cap1, ll)) key).length cx, entL (upd F key (.slice (some ⟨g1, 0, none⟩) ll.length cap1, ll)) key) := by
          cases hF : (upd F key (.slice (some ⟨g1, 0, none⟩) ll.length cap1, ll)) key with
          | none => simp [entV, hF] at hev
          | some p =>
            have q1 : p.1 = .slice (some ⟨g1, 0, none⟩) (entL (upd F key (.slice (some ⟨g1, 0, none⟩) ll.length cap1, ll)) key).length cx := by simpa [entV, hF] using hev
            have q2 : entL (upd F key (.slice (some ⟨g1, 0, none⟩) ll.length cap1, ll)) key = p.2 := by simp [entL, hF]
            rw [← q1, q2]
        have HFk := hidIt hFk0
        clear hFk0
        have HBz : Hid (∀ (v : Value) (n : Nat), Below w.heap.size w ((w7.setCell ⟨g1, 0, none⟩ v).drewN n)) := fun v n => by
          have hg : w.heap.size ≤ g1 := by have := HTP7.out.new key _ _ HFk.out g1 rfl; omega
          have hb := HTP7.out.below.setCell (p := ⟨g1, 0, none⟩) hg v
          exact ⟨hb.os, hb.tape, hb.output, hb.size, hb.block⟩
        obtain rfl : g1 = g2 := by
          obtain ⟨cap2, q⟩ := HS2.out ⟨HNe.out, hagF⟩
          rw [hev] at q
          simp only [Value.slice.injEq, Option.some.injEq, Addr.mk.injEq] at q
          exact q.1.1
        have hlk7 := HTP7.out.st.look hkey
        rw [hev] at hlk7
        obtain ⟨hc0, hf0, hLx⟩ := own_head (HTP7.out.st.own key _ _ HFk.out) hxne
        obtain ⟨hw0, _, _⟩ := own_head HTP7.out.hwnt HNe.out
        rw [agr_head hagF HNe.out hxne] at hw0
        have hnw : gw ≠ g1 := fun e => HTP7.out.far gw rfl key _ _ HFk.out (by rw [e]; rfl)
        obtain ⟨Lx, hLx2⟩ : ∃ y, y = (entL (upd F key (.slice (some ⟨g1, 0, none⟩) ll.length cap1, ll)) key).length := ⟨_, rfl⟩
        obtain ⟨x0, hx0⟩ : ∃ y, y = (entL (upd F key (.slice (some ⟨g1, 0, none⟩) ll.length cap1, ll)) key)[0]?.getD 0 := ⟨_, rfl⟩
        rw [← hLx2] at hlk7 hLx
        rw [← hx0] at hc0 hw0
        have hsw : ∀ v, (w7.setCell ⟨g1, 0, none⟩ v).cell? ⟨gw, 0, none⟩ = some (.int .i64 x0) := fun v => (World.cell?_setCell_other _ _ _ _ (by intro h; simp only [Addr.mk.injEq] at h; omega)).trans hw0
        have hse : ∀ v, (w7.setCell ⟨g1, 0, none⟩ v).cell? ⟨g1, 0, none⟩ = some v := fun v => World.cell?_setCell_same _ _ _ hc0
        clear HTP7 HR1g HR2d HN2 HS2 HFk hxne hev hLx2 hx0 hag hagF HEL HID HNe HTE HWr HOr HOe hw0
        go_wp2_with fail
        go_quiet (fail)
        go_wp2_with fail
        go_ret
        exact ⟨rfl, HBz.out _ _⟩
      | false =>
        have HA8 := hidIt (agree_at HWr.out.rd HOr.out hag)
        go_wp2_with fail
        refine HA8.out.mono ?_
        rintro e wx ⟨rfl, m8, hwx⟩
        subst hwx
        go_wp2_with fail
        refine (newlists_any _ _ _ _ _).mono ?_
        rintro e wF ⟨rfl, hwF⟩
        have HTSF : Hid (TS w wF wE.heap.size (.slice aB sl.length cB) F Fr c sl ll (.slice aC sl.length cC) (.slice aD Ll cD) (.slice (some ⟨gw, 0, none⟩) Ll cE)) := by rw [hwF]; exact HTS.out m8
        clear hwF HTS
        have HC10 := hidIt (keep_more HTSF.out.st hkey (by simp only [maxLen]; omega) HTSF.out.hlst.1.rd HLb.out (by rw [HEL.out]; exact hag) (by rw [HEL.out, HLl.out, ← HLo.out]; exact hlt))
        go_wp2_with fail
        refine HC10.out.mono ?_
        intro e w1 hq1
        obtain ⟨g1, cap1, he1, hev0, heL0, hTP0⟩ := ts_more HTSF.out hq1
        rw [HLl.out] at he1
        subst he1
        have HNm : Hid ((c + 1) < maxLen) := by show _ < _; simp only [maxLen]; omega
        have HNn : Hid ((c + 1) = (c + 1)) := rfl
        have HTP1 : Hid (TP w w1 wE.heap.size (.slice aB sl.length cB) (upd F key (.slice (some ⟨g1, 0, none⟩) ll.length cap1, ll)) (c + 1) Fr c key sl ll (.slice aC sl.length cC) (.slice aD Ll cD) (.slice (some ⟨gw, 0, none⟩) Ll cE) (.slice (some ⟨gw, 0, none⟩) Ll cE) true) := by
          have := hTP0
          rw [← HHd.out] at this
          exact this
        have HR1 : Hid (Rd w1 (.slice (some ⟨g1, 0, none⟩) Ll Ll) ll) := by
          have ho := HTP1.out.st.ent key
          rw [hev0, heL0] at ho
          have hr := ho.begins_rd (n := ll.length) (c := ll.length) (Nat.le_refl _) (Nat.le_refl _) (by have := HLl.out; omega)
          rw [List.take_of_length_le (Nat.le_refl _), HLl.out] at hr
          exact hr
        have HEv : Hid (entV (upd F key (.slice (some ⟨g1, 0, none⟩) ll.length cap1, ll)) key = .slice (some ⟨g1, 0, none⟩) ll.length cap1) := hev0
        have HEl : Hid (entL (upd F key (.slice (some ⟨g1, 0, none⟩) ll.length cap1, ll)) key = ll) := heL0
        have HID : Hid (ll = [] ∨ agr ll (entL (upd F key (.slice (some ⟨g1, 0, none⟩) ll.length cap1, ll)) key) = false ∨ ll.length ≤ (entL (upd F key (.slice (some ⟨g1, 0, none⟩) ll.length cap1, ll)) key).length) := .inr (.inr (by rw [heL0]; exact Nat.le_refl _))
        clear HC10 HTSF hq1 hev0 heL0 hTP0
        have HC11 := hidIt (same_true HR1.out HTP1.out.hwnt.rd)
        go_wp2_with fail
        refine HC11.out.mono ?_
        rintro e w2 ⟨rfl, hb2⟩
        have HTP2 : Hid (TP w w2 wE.heap.size (.slice aB sl.length cB) (upd F key (.slice (some ⟨g1, 0, none⟩) ll.length cap1, ll)) (c + 1) Fr c key sl ll (.slice aC sl.length cC) (.slice aD Ll cD) (.slice (some ⟨gw, 0, none⟩) Ll cE) (.slice (some ⟨gw, 0, none⟩) Ll cE) true) := HTP1.out.later hb2
        have HR1b : Hid (Rd w2 (.slice (some ⟨g1, 0, none⟩) Ll Ll) ll) := HR1.out.later hb2
        clear HC11 HTP1 HR1 hb2
        have hlm2 : (Builtin.len_ #[26] 3 #[.map (some w.heap.size)]).run Try.prog w2 = .ok (.int .i64 ((c : Int) + 1)) w2 := by
          have := HTP2.out.st.map.len Try.underlying26 3
          first | exact this | (rw [HNn.out] at this; exact this) | simpa using this
        have HC12 := hidIt (state_any (HKr.out.later HTP2.out.below) hnk HWf.out hkey HTP2.out.ask)
        go_wp2_with fail
        refine HC12.out.mono ?_
        rintro e w3 ⟨rfl, hb3⟩
        have HTP3 : Hid (TP w w3 wE.heap.size (.slice aB sl.length cB) (upd F key (.slice (some ⟨g1, 0, none⟩) ll.length cap1, ll)) (c + 1) Fr c key sl ll (.slice aC sl.length cC) (.slice aD Ll cD) (.slice (some ⟨gw, 0, none⟩) Ll cE) (.slice (some ⟨gw, 0, none⟩) Ll cE) true) := HTP2.out.later hb3
        have HR1c : Hid (Rd w3 (.slice (some ⟨g1, 0, none⟩) Ll Ll) ll) := HR1b.out.later hb3
        clear HC12 HTP2 HR1b hb3 hlm2
        have HC10 := hidIt (keep_idle HTP3.out.st hkey (by first | exact HNm.out | (have := HNm.out; simpa using this)) HTP3.out.hlst HLb.out HID.out)
        go_wp2_with fail
        refine HC10.out.mono ?_
        rintro e w4 ⟨g2, c2, he4, hr4, hb4, hsh4, hns4⟩
        rw [HLl.out] at he4 hr4
        subst he4
        have HTP4 : Hid (TP w w4 wE.heap.size (.slice aB sl.length cB) (upd F key (.slice (some ⟨g1, 0, none⟩) ll.length cap1, ll)) (c + 1) Fr c key sl ll (.slice aC sl.length cC) (.slice aD Ll cD) (.slice (some ⟨gw, 0, none⟩) Ll cE) (.slice (some ⟨gw, 0, none⟩) Ll cE) true) := HTP3.out.later hb4
        have HR1d : Hid (Rd w4 (.slice (some ⟨g1, 0, none⟩) Ll Ll) ll) := HR1c.out.later hb4
        have HR2 : Hid (Rd w4 (.slice (some ⟨g2, 0, none⟩) Ll c2) ll) := hr4
        have HS2 := hidIt hsh4
        have HN2 : Hid (¬ (ll ≠ [] ∧ agr ll (entL (upd F key (.slice (some ⟨g1, 0, none⟩) ll.length cap1, ll)) key) = true) → ∀ k v xs, (upd F key (.slice (some ⟨g1, 0, none⟩) ll.length cap1, ll)) k = some (v, xs) → v.ownBlock ≠ some g2) := fun hh k v xs hF hg => by
          have q1 := hns4 hh
          have q2 := (HTP3.out.st.own k v xs hF).lt hg
          omega
        clear HC10 HTP3 HR1c hb4 hr4 hsh4 hns4
        have HC11 := hidIt (same_true HR2.out HTP4.out.hwnt.rd)
        go_wp2_with fail
        refine HC11.out.mono ?_
        rintro e w5 ⟨rfl, hb5⟩
        have HTP5 : Hid (TP w w5 wE.heap.size (.slice aB sl.length cB) (upd F key (.slice (some ⟨g1, 0, none⟩) ll.length cap1, ll)) (c + 1) Fr c key sl ll (.slice aC sl.length cC) (.slice aD Ll cD) (.slice (some ⟨gw, 0, none⟩) Ll cE) (.slice (some ⟨gw, 0, none⟩) Ll cE) true) := HTP4.out.later hb5
        have HR1e : Hid (Rd w5 (.slice (some ⟨g1, 0, none⟩) Ll Ll) ll) := HR1d.out.later hb5
        have HR2b : Hid (Rd w5 (.slice (some ⟨g2, 0, none⟩) Ll c2) ll) := HR2.out.later hb5
        clear HC11 HTP4 HR1d HR2 hb5
        have hlm5 : (Builtin.len_ #[26] 3 #[.map (some w.heap.size)]).run Try.prog w5 = .ok (.int .i64 ((c : Int) + 1)) w5 := by
          have := HTP5.out.st.map.len Try.underlying26 3
          first | exact this | (rw [HNn.out] at this; exact this) | simpa using this
        have HC12 := hidIt (state_any (HKr.out.later HTP5.out.below) hnk HWf.out hkey HTP5.out.ask)
        go_wp2_with fail
        refine HC12.out.mono ?_
        rintro e w6 ⟨rfl, hb6⟩
        have HTP6 : Hid (TP w w6 wE.heap.size (.slice aB sl.length cB) (upd F key (.slice (some ⟨g1, 0, none⟩) ll.length cap1, ll)) (c + 1) Fr c key sl ll (.slice aC sl.length cC) (.slice aD Ll cD) (.slice (some ⟨gw, 0, none⟩) Ll cE) (.slice (some ⟨gw, 0, none⟩) Ll cE) true) := HTP5.out.later hb6
        have HR1f : Hid (Rd w6 (.slice (some ⟨g1, 0, none⟩) Ll Ll) ll) := HR1e.out.later hb6
        have HR2c : Hid (Rd w6 (.slice (some ⟨g2, 0, none⟩) Ll c2) ll) := HR2b.out.later hb6
        clear HC12 HTP5 HR1e HR2b hb6 hlm5
        have HC13 := hidIt (scratch_any wE.heap.size aB sl.length cB w6 (by simp [World.cell?, HTP6.out.st.cells]))
        have HC11 := hidIt (same_true HTP6.out.hsc HTP6.out.hscr)
        have hz : (aB.isNone == aC.isNone) = true := by rw [HZ.out]; simp
        have hz2 : (aB.isNone != aC.isNone) = false := by rw [HZ.out]; simp
        go_wp2_with fail
        refine HC13.out.mono ?_
        rintro e w6' ⟨rfl, hw6⟩
        subst hw6
        go_wp2_with fail
        refine HC11.out.mono ?_
        rintro e w7 ⟨rfl, hb7⟩
        have HTP7 : Hid (TP w w7 wE.heap.size (.slice aB sl.length cB) (upd F key (.slice (some ⟨g1, 0, none⟩) ll.length cap1, ll)) (c + 1) Fr c key sl ll (.slice aC sl.length cC) (.slice aD Ll cD) (.slice (some ⟨gw, 0, none⟩) Ll cE) (.slice (some ⟨gw, 0, none⟩) Ll cE) true) := HTP6.out.later hb7
        have HR1g : Hid (Rd w7 (.slice (some ⟨g1, 0, none⟩) Ll Ll) ll) := HR1f.out.later hb7
        have HR2d : Hid (Rd w7 (.slice (some ⟨g2, 0, none⟩) Ll c2) ll) := HR2c.out.later hb7
        clear HC11 HC13 HTP6 HR1f HR2c hb7 hz hz2
        have hagF : agr ll (entL (upd F key (.slice (some ⟨g1, 0, none⟩) ll.length cap1, ll)) key) = true := by rw [HEl.out]; exact agr_refl ll
        have hxne : entL (upd F key (.slice (some ⟨g1, 0, none⟩) ll.length cap1, ll)) key ≠ [] := by rw [HEl.out]; exact HNe.out
        obtain ⟨cx, hev⟩ : ∃ cx, entV (upd F key (.slice (some ⟨g1, 0, none⟩) ll.length cap1, ll)) key = .slice (some ⟨g1, 0, none⟩) (entL (upd F key (.slice (some ⟨g1, 0, none⟩) ll.length cap1, ll)) key).length cx := ⟨cap1, by rw [HEl.out]; exact HEv.out⟩
        clear HEv HEl
        have hFk0 : (upd F key (.slice (some ⟨g1, 0, none⟩) ll.length cap1, ll)) key = some (.slice (some ⟨g1, 0, none⟩) (entL (upd F key (.slice (some ⟨g1, 0, none⟩) ll.length cap1, ll)) key).length cx, entL (upd F key (.slice (some ⟨g1, 0, none⟩) ll.length cap1, ll)) key) := by
          cases hF : (upd F key (.slice (some ⟨g1, 0, none⟩) ll.length cap1, ll)) key with
          | none => simp [entV, hF] at hev
          | some p =>
            have q1 : p.1 = .slice (some ⟨g1, 0, none⟩) (entL (upd F key (.slice (some ⟨g1, 0, none⟩) ll.length cap1, ll)) key).length cx := by simpa [entV, hF] using hev
            have q2 : entL (upd F key (.slice (some ⟨g1, 0, none⟩) ll.length cap1, ll)) key = p.2 := by simp [entL, hF]
            rw [← q1, q2]
        have HFk := hidIt hFk0
        clear hFk0
        have HBz : Hid (∀ (v : Value) (n : Nat), Below w.heap.size w ((w7.setCell ⟨g1, 0, none⟩ v).drewN n)) := fun v n => by
          have hg : w.heap.size ≤ g1 := by have := HTP7.out.new key _ _ HFk.out g1 rfl; omega
          have hb := HTP7.out.below.setCell (p := ⟨g1, 0, none⟩) hg v
          exact ⟨hb.os, hb.tape, hb.output, hb.size, hb.block⟩
        obtain rfl : g1 = g2 := by
          obtain ⟨cap2, q⟩ := HS2.out ⟨HNe.out, hagF⟩
          rw [hev] at q
          simp only [Value.slice.injEq, Option.some.injEq, Addr.mk.injEq] at q
          exact q.1.1
        have hlk7 := HTP7.out.st.look hkey
        rw [hev] at hlk7
        obtain ⟨hc0, hf0, hLx⟩ := own_head (HTP7.out.st.own key _ _ HFk.out) hxne
        obtain ⟨hw0, _, _⟩ := own_head HTP7.out.hwnt HNe.out
        rw [agr_head hagF HNe.out hxne] at hw0
        have hnw : gw ≠ g1 := fun e => HTP7.out.far gw rfl key _ _ HFk.out (by rw [e]; rfl)
        obtain ⟨Lx, hLx2⟩ : ∃ y, y = (entL (upd F key (.slice (some ⟨g1, 0, none⟩) ll.length cap1, ll)) key).length := ⟨_, rfl⟩
        obtain ⟨x0, hx0⟩ : ∃ y, y = (entL (upd F key (.slice (some ⟨g1, 0, none⟩) ll.length cap1, ll)) key)[0]?.getD 0 := ⟨_, rfl⟩
        rw [← hLx2] at hlk7 hLx
        rw [← hx0] at hc0 hw0
        have hsw : ∀ v, (w7.setCell ⟨g1, 0, none⟩ v).cell? ⟨gw, 0, none⟩ = some (.int .i64 x0) := fun v => (World.cell?_setCell_other _ _ _ _ (by intro h; simp only [Addr.mk.injEq] at h; omega)).trans hw0
        have hse : ∀ v, (w7.setCell ⟨g1, 0, none⟩ v).cell? ⟨g1, 0, none⟩ = some v := fun v => World.cell?_setCell_same _ _ _ hc0
        clear HTP7 HR1g HR2d HN2 HS2 HFk hxne hev hLx2 hx0 hag hagF HEL HID HNe HTE HWr HOr HOe hw0
        go_wp2_with fail
        go_quiet (fail)
        go_wp2_with fail
        go_ret
        exact ⟨rfl, HBz.out _ _⟩
    · -- it is a beginning of what is held
      obtain rfl : hd = true := by
        cases hF : Fr key with
        | none =>
          have q : entL Fr key = [] := by simp [entL, hF]
          have := HLo.out
          rw [q] at this
          simp at this
          omega
        | some p => have := HHd.out; rw [hF] at this; exact this
      have HID : Hid (ll = [] ∨ agr ll (entL F key) = false ∨ ll.length ≤ (entL F key).length) := .inr (.inr (by rw [HEL.out, HLl.out, ← HLo.out]; exact hge))
      have HA8 := hidIt (agree_at HWr.out.rd HOr.out hag)
      go_wp2_with fail
      refine HA8.out.mono ?_
      rintro e wx ⟨rfl, m8, hwx⟩
      subst hwx
      go_wp2_with fail
      refine (newlists_any _ _ _ _ _).mono ?_
      rintro e wF ⟨rfl, hwF⟩
      have HTSF : Hid (TS w wF wE.heap.size (.slice aB sl.length cB) F Fr c sl ll (.slice aC sl.length cC) (.slice aD Ll cD) (.slice (some ⟨gw, 0, none⟩) Ll cE)) := by rw [hwF]; exact HTS.out m8
      clear hwF HTS
      have HC10 := hidIt (keep_idle HTSF.out.st hkey (by simp only [maxLen]; omega) HTSF.out.hlst.1.rd HLb.out HID.out)
      go_wp2_with fail
      refine HC10.out.mono ?_
      rintro e w1 ⟨g1, c1, he1, hr1, hb1, hsh1, hns1⟩
      rw [HLl.out] at he1 hr1
      subst he1
      have HTP1 : Hid (TP w w1 wE.heap.size (.slice aB sl.length cB) F c Fr c key sl ll (.slice aC sl.length cC) (.slice aD Ll cD) (.slice (some ⟨gw, 0, none⟩) Ll cE) (.slice oa Lo oc) true) := by
        have := ts_idle HTSF.out hb1 key
        rw [HOe.out, ← HHd.out] at this
        exact this
      have HR1 : Hid (Rd w1 (.slice (some ⟨g1, 0, none⟩) Ll c1) ll) := hr1
      have HS1 := hidIt hsh1
      have HN1 : Hid (¬ (ll ≠ [] ∧ agr ll (entL F key) = true) → ∀ k v xs, F k = some (v, xs) → v.ownBlock ≠ some g1) := fun hh k v xs hF hg => by
        have q1 := hns1 hh
        have q2 := (HTSF.out.st.own k v xs hF).lt hg
        omega
      have HNm : Hid (c < maxLen) := by show _ < _; simp only [maxLen]; omega
      have HNn : Hid (c = c) := rfl
      clear HC10 HTSF hr1 hb1 hsh1 hns1
      have HC11 := hidIt (same_true HR1.out HTP1.out.hwnt.rd)
      go_wp2_with fail
      refine HC11.out.mono ?_
      rintro e w2 ⟨rfl, hb2⟩
      have HTP2 : Hid (TP w w2 wE.heap.size (.slice aB sl.length cB) F c Fr c key sl ll (.slice aC sl.length cC) (.slice aD Ll cD) (.slice (some ⟨gw, 0, none⟩) Ll cE) (.slice oa Lo oc) true) := HTP1.out.later hb2
      have HR1b : Hid (Rd w2 (.slice (some ⟨g1, 0, none⟩) Ll c1) ll) := HR1.out.later hb2
      clear HC11 HTP1 HR1 hb2
      have hlm2 : (Builtin.len_ #[26] 3 #[.map (some w.heap.size)]).run Try.prog w2 = .ok (.int .i64 c) w2 := by
        have := HTP2.out.st.map.len Try.underlying26 3
        first | exact this | (rw [HNn.out] at this; exact this) | simpa using this
      have HC12 := hidIt (state_any (HKr.out.later HTP2.out.below) hnk HWf.out hkey HTP2.out.ask)
      go_wp2_with fail
      refine HC12.out.mono ?_
      rintro e w3 ⟨rfl, hb3⟩
      have HTP3 : Hid (TP w w3 wE.heap.size (.slice aB sl.length cB) F c Fr c key sl ll (.slice aC sl.length cC) (.slice aD Ll cD) (.slice (some ⟨gw, 0, none⟩) Ll cE) (.slice oa Lo oc) true) := HTP2.out.later hb3
      have HR1c : Hid (Rd w3 (.slice (some ⟨g1, 0, none⟩) Ll c1) ll) := HR1b.out.later hb3
      clear HC12 HTP2 HR1b hb3 hlm2
      have HC10 := hidIt (keep_idle HTP3.out.st hkey (by first | exact HNm.out | (have := HNm.out; simpa using this)) HTP3.out.hlst HLb.out HID.out)
      go_wp2_with fail
      refine HC10.out.mono ?_
      rintro e w4 ⟨g2, c2, he4, hr4, hb4, hsh4, hns4⟩
      rw [HLl.out] at he4 hr4
      subst he4
      have HTP4 : Hid (TP w w4 wE.heap.size (.slice aB sl.length cB) F c Fr c key sl ll (.slice aC sl.length cC) (.slice aD Ll cD) (.slice (some ⟨gw, 0, none⟩) Ll cE) (.slice oa Lo oc) true) := HTP3.out.later hb4
      have HR1d : Hid (Rd w4 (.slice (some ⟨g1, 0, none⟩) Ll c1) ll) := HR1c.out.later hb4
      have HR2 : Hid (Rd w4 (.slice (some ⟨g2, 0, none⟩) Ll c2) ll) := hr4
      have HS2 := hidIt hsh4
      have HN2 : Hid (¬ (ll ≠ [] ∧ agr ll (entL F key) = true) → ∀ k v xs, F k = some (v, xs) → v.ownBlock ≠ some g2) := fun hh k v xs hF hg => by
        have q1 := hns4 hh
        have q2 := (HTP3.out.st.own k v xs hF).lt hg
        omega
      clear HC10 HTP3 HR1c hb4 hr4 hsh4 hns4
      have HC11 := hidIt (same_true HR2.out HTP4.out.hwnt.rd)
      go_wp2_with fail
      refine HC11.out.mono ?_
      rintro e w5 ⟨rfl, hb5⟩
      have HTP5 : Hid (TP w w5 wE.heap.size (.slice aB sl.length cB) F c Fr c key sl ll (.slice aC sl.length cC) (.slice aD Ll cD) (.slice (some ⟨gw, 0, none⟩) Ll cE) (.slice oa Lo oc) true) := HTP4.out.later hb5
      have HR1e : Hid (Rd w5 (.slice (some ⟨g1, 0, none⟩) Ll c1) ll) := HR1d.out.later hb5
      have HR2b : Hid (Rd w5 (.slice (some ⟨g2, 0, none⟩) Ll c2) ll) := HR2.out.later hb5
      clear HC11 HTP4 HR1d HR2 hb5
      have hlm5 : (Builtin.len_ #[26] 3 #[.map (some w.heap.size)]).run Try.prog w5 = .ok (.int .i64 c) w5 := by
        have := HTP5.out.st.map.len Try.underlying26 3
        first | exact this | (rw [HNn.out] at this; exact this) | simpa using this
      have HC12 := hidIt (state_any (HKr.out.later HTP5.out.below) hnk HWf.out hkey HTP5.out.ask)
      go_wp2_with fail
      refine HC12.out.mono ?_
      rintro e w6 ⟨rfl, hb6⟩
      have HTP6 : Hid (TP w w6 wE.heap.size (.slice aB sl.length cB) F c Fr c key sl ll (.slice aC sl.length cC) (.slice aD Ll cD) (.slice (some ⟨gw, 0, none⟩) Ll cE) (.slice oa Lo oc) true) := HTP5.out.later hb6
      have HR1f : Hid (Rd w6 (.slice (some ⟨g1, 0, none⟩) Ll c1) ll) := HR1e.out.later hb6
      have HR2c : Hid (Rd w6 (.slice (some ⟨g2, 0, none⟩) Ll c2) ll) := HR2b.out.later hb6
      clear HC12 HTP5 HR1e HR2b hb6 hlm5
      have HC13 := hidIt (scratch_any wE.heap.size aB sl.length cB w6 (by simp [World.cell?, HTP6.out.st.cells]))
      have HC11 := hidIt (same_true HTP6.out.hsc HTP6.out.hscr)
      have hz : (aB.isNone == aC.isNone) = true := by rw [HZ.out]; simp
      have hz2 : (aB.isNone != aC.isNone) = false := by rw [HZ.out]; simp
      go_wp2_with fail
      refine HC13.out.mono ?_
      rintro e w6' ⟨rfl, hw6⟩
      subst hw6
      go_wp2_with fail
      refine HC11.out.mono ?_
      rintro e w7 ⟨rfl, hb7⟩
      have HTP7 : Hid (TP w w7 wE.heap.size (.slice aB sl.length cB) F c Fr c key sl ll (.slice aC sl.length cC) (.slice aD Ll cD) (.slice (some ⟨gw, 0, none⟩) Ll cE) (.slice oa Lo oc) true) := HTP6.out.later hb7
      have HR1g : Hid (Rd w7 (.slice (some ⟨g1, 0, none⟩) Ll c1) ll) := HR1f.out.later hb7
      have HR2d : Hid (Rd w7 (.slice (some ⟨g2, 0, none⟩) Ll c2) ll) := HR2c.out.later hb7
      clear HC11 HC13 HTP6 HR1f HR2c hb7 hz hz2
      have hagF : agr ll (entL F key) = true := by rw [HEL.out]; exact hag
      have hxne : entL F key ≠ [] := by
        intro e
        have q := HLo.out
        rw [← HEL.out, e] at q
        simp at q
        omega
      obtain ⟨cx, hev⟩ := HS1.out ⟨HNe.out, hagF⟩
      clear HS1 HN1
      have hFk0 : F key = some (.slice (some ⟨g1, 0, none⟩) (entL F key).length cx, entL F key) := by
        cases hF : F key with
        | none => simp [entV, hF] at hev
        | some p =>
          have q1 : p.1 = .slice (some ⟨g1, 0, none⟩) (entL F key).length cx := by simpa [entV, hF] using hev
          have q2 : entL F key = p.2 := by simp [entL, hF]
          rw [← q1, q2]
      have HFk := hidIt hFk0
      clear hFk0
      have HBz : Hid (∀ (v : Value) (n : Nat), Below w.heap.size w ((w7.setCell ⟨g1, 0, none⟩ v).drewN n)) := fun v n => by
        have hg : w.heap.size ≤ g1 := by have := HTP7.out.new key _ _ HFk.out g1 rfl; omega
        have hb := HTP7.out.below.setCell (p := ⟨g1, 0, none⟩) hg v
        exact ⟨hb.os, hb.tape, hb.output, hb.size, hb.block⟩
      obtain rfl : g1 = g2 := by
        obtain ⟨cap2, q⟩ := HS2.out ⟨HNe.out, hagF⟩
        rw [hev] at q
        simp only [Value.slice.injEq, Option.some.injEq, Addr.mk.injEq] at q
        exact q.1.1
      have hlk7 := HTP7.out.st.look hkey
      rw [hev] at hlk7
      obtain ⟨hc0, hf0, hLx⟩ := own_head (HTP7.out.st.own key _ _ HFk.out) hxne
      obtain ⟨hw0, _, _⟩ := own_head HTP7.out.hwnt HNe.out
      rw [agr_head hagF HNe.out hxne] at hw0
      have hnw : gw ≠ g1 := fun e => HTP7.out.far gw rfl key _ _ HFk.out (by rw [e]; rfl)
      obtain ⟨Lx, hLx2⟩ : ∃ y, y = (entL F key).length := ⟨_, rfl⟩
      obtain ⟨x0, hx0⟩ : ∃ y, y = (entL F key)[0]?.getD 0 := ⟨_, rfl⟩
      rw [← hLx2] at hlk7 hLx
      rw [← hx0] at hc0 hw0
      have hsw : ∀ v, (w7.setCell ⟨g1, 0, none⟩ v).cell? ⟨gw, 0, none⟩ = some (.int .i64 x0) := fun v => (World.cell?_setCell_other _ _ _ _ (by intro h; simp only [Addr.mk.injEq] at h; omega)).trans hw0
      have hse : ∀ v, (w7.setCell ⟨g1, 0, none⟩ v).cell? ⟨g1, 0, none⟩ = some v := fun v => World.cell?_setCell_same _ _ _ hc0
      clear HTP7 HR1g HR2d HN2 HS2 HFk hxne hev hLx2 hx0 hag hagF HEL HID HNe HTE HWr HOr HOe hw0
      go_wp2_with fail
      go_quiet (fail)
      go_wp2_with fail
      go_ret
      exact ⟨rfl, HBz.out _ _⟩
end Go.Proofs.Qxb6617284a

