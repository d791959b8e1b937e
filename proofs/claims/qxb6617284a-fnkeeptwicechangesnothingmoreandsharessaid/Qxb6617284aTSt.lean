/-
  The law on two keeps: its loop at whatever keys and values; and what holds behind it. No walk but the loop's own.
-/
import Derived.Test.Qxb6617284aTLoop
import Derived.Test.Qxb6617284aState
namespace Go.Proofs.Qxb6617284a
set_option linter.unusedVariables false
open Go.RowKit Go.Deep Go.Maps

set_option maxRecDepth 100000 in
theorem tloop (code : Code) (hcode : Try.f3.body.bind (findBlk 0) = some code) {Kc : Act → World → Prop} {Qp : Ending → World → Prop} {ak : Option Addr} {nk ck : Nat} {va : Option Addr} {nv vc : Nat} (w w0 : World) {c2 c3 c4 c5 c6 c7 c8 c9 c10 c14 c15 c16 c17 c18 c19 c20 c21 c22 c23 c24 c25 c26 c27 c28 c29 c30 c31 c32 c33 c34 c35 c36 c37 c38 c39 c40 c41 c42 c43 c44 c45 c46 c47 c48 c49 c50 c51 c52 c53 c54 c55 c56 c57 c58 c59 c60 c61 c62 c63 c64 c65 c66 c67 c68 c69 c70 c71 c72 c73 c74 c75 c76 c77 c78 c79 c80 c81 c82 c83 c84 c85 c86 c87 c88 c89 c90 c91 c92 c93 c94 c95 c96 c97 c98 c99 c100 c101 c102 c103 c104 c105 c106 c107 c108 c109 c110 c111 c112 c113 c114 c115 c116 c117 c118 c119 c120 c121 c122 c123 c124 c125 c126 c127 c128 c129 c130 c131 c132 c133 c134 c135 c136 c137 c138 c139 c140 c141 c142 c143 c144 c145 c146 c147 c148 c149 c150 c151 c152 c153 c154 c155 c156 c157 c158 c159 c160 c161 c162 c163 c164 c165 c166 c167 c168 c169 c170 c171 c172 c173 c174 c175 c176 c177 c178 c179 c180 c181 c182 c183 c184 c185 c186 c187 c188 c189 c190 c191 c192 c193 c194 c195 c196 c197 c198 c199 c200 c201 c202 c203 c204 c205 c206 c207 c208 c209 c210 c211 c212 c213 c214 c215 c216 c217 c218 c219 c220 c221 c222 c223 c224 c225 c226 c227 c228 c229 c230 c231 c232 c233 c234 c235 c236 c237 c238 c239 c240 c241 c242 c243 c244 c245 c246 c247 c248 c249 c250 c251 c252 c253 c254 : Value}
    {ks : List Int} {A : Nat → Option Addr} {C : Nat → Nat} {VL : Nat → List Int} (hk : Rd w (.slice ak nk ck) ks) (hwf : ∀ x ∈ ks, (Lit.int .i64 x).wf = true) (hh : Heads w (.slice va nv vc) nv A (fun j => (VL j).length) C) (hvr : ∀ i, i < nv → Rd w (.slice (A i) (VL i).length (C i)) (VL i)) (hvl : ∀ i, i < nv → (VL i).length ≤ 131072) (hnk : nk ≤ 65536) (hnv : nv ≤ 65536)
    (h0 : TInv w 0 w0) (hK : ∀ (u13 u14 u72 u73 u74 u75 u76 u77 u78 u79 u80 u81 u82 u83 u84 u85 u86 u87 u88 u89 u90 u91 u92 u93 u94 u95 u96 u97 u98 u99 : Value) wc, TInv w nk wc → Kc ⟨#[.slice ak nk ck, .slice va nv vc, c2, c3, c4, c5, c6, c7, c8, c9, c10, .map (some w.heap.size), .map (some (w.heap.size + 1)), u13, u14, c15, c16, c17, c18, c19, c20, c21, c22, c23, c24, c25, c26, c27, c28, c29, c30, c31, c32, c33, c34, c35, c36, c37, c38, c39, c40, c41, c42, c43, c44, c45, c46, c47, c48, c49, c50, c51, c52, c53, c54, c55, c56, c57, c58, c59, c60, c61, c62, c63, c64, c65, c66, c67, c68, c69, c70, c71, u72, u73, u74, u75, u76, u77, u78, u79, u80, u81, u82, u83, u84, u85, u86, u87, u88, u89, u90, u91, u92, u93, u94, u95, u96, u97, u98, u99, c100, c101, c102, c103, c104, c105, c106, c107, c108, c109, c110, c111, c112, c113, c114, c115, c116, c117, c118, c119, c120, c121, c122, c123, c124, c125, c126, c127, c128, c129, c130, c131, c132, c133, c134, c135, c136, c137, c138, c139, c140, c141, c142, c143, c144, c145, c146, c147, c148, c149, c150, c151, c152, c153, c154, c155, c156, c157, c158, c159, c160, c161, c162, c163, c164, c165, c166, c167, c168, c169, c170, c171, c172, c173, c174, c175, c176, c177, c178, c179, c180, c181, c182, c183, c184, c185, c186, c187, c188, c189, c190, c191, c192, c193, c194, c195, c196, c197, c198, c199, c200, c201, c202, c203, c204, c205, c206, c207, c208, c209, c210, c211, c212, c213, c214, c215, c216, c217, c218, c219, c220, c221, c222, c223, c224, c225, c226, c227, c228, c229, c230, c231, c232, c233, c234, c235, c236, c237, c238, c239, c240, c241, c242, c243, c244, c245, c246, c247, c248, c249, c250, c251, c252, c253, c254], []⟩ wc) :
    Code.wp Try.prog code (Exit.then Kc (bodyPost Try.prog Try.f3 Qp)) ⟨#[.slice ak nk ck, .slice va nv vc, c2, c3, c4, c5, c6, c7, c8, c9, c10, .map (some w.heap.size), .map (some (w.heap.size + 1)), .int .i64 0, c14, c15, c16, c17, c18, c19, c20, c21, c22, c23, c24, c25, c26, c27, c28, c29, c30, c31, c32, c33, c34, c35, c36, c37, c38, c39, c40, c41, c42, c43, c44, c45, c46, c47, c48, c49, c50, c51, c52, c53, c54, c55, c56, c57, c58, c59, c60, c61, c62, c63, c64, c65, c66, c67, c68, c69, c70, c71, c72, c73, c74, c75, c76, c77, c78, c79, c80, c81, c82, c83, c84, c85, c86, c87, c88, c89, c90, c91, c92, c93, c94, c95, c96, c97, c98, c99, c100, c101, c102, c103, c104, c105, c106, c107, c108, c109, c110, c111, c112, c113, c114, c115, c116, c117, c118, c119, c120, c121, c122, c123, c124, c125, c126, c127, c128, c129, c130, c131, c132, c133, c134, c135, c136, c137, c138, c139, c140, c141, c142, c143, c144, c145, c146, c147, c148, c149, c150, c151, c152, c153, c154, c155, c156, c157, c158, c159, c160, c161, c162, c163, c164, c165, c166, c167, c168, c169, c170, c171, c172, c173, c174, c175, c176, c177, c178, c179, c180, c181, c182, c183, c184, c185, c186, c187, c188, c189, c190, c191, c192, c193, c194, c195, c196, c197, c198, c199, c200, c201, c202, c203, c204, c205, c206, c207, c208, c209, c210, c211, c212, c213, c214, c215, c216, c217, c218, c219, c220, c221, c222, c223, c224, c225, c226, c227, c228, c229, c230, c231, c232, c233, c234, c235, c236, c237, c238, c239, c240, c241, c242, c243, c244, c245, c246, c247, c248, c249, c250, c251, c252, c253, c254], []⟩ w0 := by
  obtain ⟨a0, c0', he, hl0, hm0, hr0⟩ := hk
  simp only [Value.slice.injEq] at he
  obtain ⟨rfl, rfl, rfl⟩ := he
  obtain ⟨a1, c1', he, hl1, hm1, hr1⟩ := hh
  simp only [Value.slice.injEq, true_and] at he
  obtain ⟨rfl, rfl⟩ := he
  by_cases hz : ks = []
  · subst hz
    exact tloopZ code hcode ak ck va nv vc w w0 h0 hK
  · obtain ⟨kb, ko, rfl, hkc⟩ := hr0 hz
    have hwf' : ∀ i, i < ks.length → (Lit.int .i64 (ks[i]?.getD 0)).wf = true := fun i hi => by
      rw [List.getElem?_eq_getElem hi]
      exact hwf _ (List.getElem_mem hi)
    by_cases hv : 0 < nv
    · obtain ⟨vb, vo, rfl, hvc⟩ := hr1 hv
      exact tloopB code hcode kb ko ks.length ck vb vo nv vc (fun i => ks[i]?.getD 0) A C VL w w0 hnk hnv hkc hwf' hvc hvr hvl h0 hK
    · obtain rfl : nv = 0 := by omega
      exact tloopA code hcode kb ko ks.length ck va vc (fun i => ks[i]?.getD 0) w w0 hnk hkc hwf' h0 hK

/-- What holds behind the first keep, and stays while nothing old turns. F: what m holds now, n entries; Fr: what ref holds, c entries. -/
structure TP (w W : World) (Lb : Nat) (scv : Value) (F : Int → Option (Value × List Int)) (n : Nat) (Fr : Int → Option (Value × List Int)) (c : Nat) (key : Int) (sl ll : List Int) (scr lst wnt wa : Value) (had : Bool) : Prop where
  below : Below w.heap.size w W
  st : LSt W Lb w.heap.size scv F n
  mr : MapIs W (w.heap.size + 1) (fun k => (Fr k).map Prod.fst) c
  rr : ∀ k, Rd W (entV Fr k) (entL Fr k)
  hsc : Rd W scv sl
  hscr : Rd W scr sl
  hlst : Rd W lst ll
  hwnt : Own W wnt ll
  same : ∀ k, k ≠ key → (F k).isSome = (Fr k).isSome ∧ entL F k = entL Fr k
  hhad : (F key).isSome = had
  hwa : Rd W wa (entL F key)
  far : Far F wnt
  new : ∀ k v xs, F k = some (v, xs) → ∀ g, v.ownBlock = some g → w.heap.size + 2 ≤ g

theorem TP.later {w W W' : World} {Lb : Nat} {scv : Value} {F : Int → Option (Value × List Int)} {n : Nat} {Fr : Int → Option (Value × List Int)} {c : Nat} {key : Int} {sl ll : List Int} {scr lst wnt wa : Value} {had : Bool}
    (h : TP w W Lb scv F n Fr c key sl ll scr lst wnt wa had) (hb : Below W.heap.size W W') : TP w W' Lb scv F n Fr c key sl ll scr lst wnt wa had :=
  ⟨h.below.trans (hb.mono h.below.size), h.st.kept (fun k hk => hb.block k hk), h.mr.kept (hb.block _ h.mr.lt), fun k => (h.rr k).later hb, h.hsc.later hb, h.hscr.later hb, h.hlst.later hb, h.hwnt.later hb, h.same, h.hhad, h.hwa.later hb, h.far, h.new⟩

theorem below_drew (W : World) (n : Nat) : Below W.heap.size W (W.drewN n) := ⟨rfl, rfl, rfl, Nat.le_refl _, fun _ _ => rfl⟩

theorem TP.ask {w W : World} {Lb : Nat} {scv : Value} {F : Int → Option (Value × List Int)} {n : Nat} {Fr : Int → Option (Value × List Int)} {c : Nat} {key : Int} {sl ll : List Int} {scr lst wnt wa : Value} {had : Bool}
    (h : TP w W Lb scv F n Fr c key sl ll scr lst wnt wa had) : SAsk W w.heap.size (w.heap.size + 1) key wa had (fun k => (F k).map Prod.fst) (fun k => (Fr k).map Prod.fst) (entL F) (entL Fr) :=
  ⟨⟨n, h.st.map⟩, ⟨c, h.mr⟩, fun k => (h.st.ent k).rd, fun k => h.rr k, fun k hk => ⟨by simpa using (h.same k hk).1, (h.same k hk).2⟩, by simpa using h.hhad, h.hwa⟩

/-- What holds when the readLists has been made. -/
structure TS (w W : World) (Lb : Nat) (scv : Value) (F Fr : Int → Option (Value × List Int)) (c : Nat) (sl ll : List Int) (scr lst wnt : Value) : Prop where
  mid : TMid w W F Fr c c
  pl : ∀ k, (F k).map Prod.snd = (Fr k).map Prod.snd
  cells : W.heap[Lb]? = some (.cells #[.map (some w.heap.size), scv] 40 (0, 0))
  hsc : Own W scv sl ∧ Far F scv
  hscr : Own W scr sl ∧ Far F scr
  hlst : Own W lst ll ∧ Far F lst
  hwnt : Own W wnt ll ∧ Far F wnt

theorem TS.st {w W : World} {Lb : Nat} {scv : Value} {F Fr : Int → Option (Value × List Int)} {c : Nat} {sl ll : List Int} {scr lst wnt : Value} (h : TS w W Lb scv F Fr c sl ll scr lst wnt) : LSt W Lb w.heap.size scv F c :=
  ⟨h.cells, h.mid.mm, fun k v xs hF => (h.mid.om k v xs hF).1, h.mid.apart⟩

theorem entL_eq {F Fr : Int → Option (Value × List Int)} (h : ∀ k, (F k).map Prod.snd = (Fr k).map Prod.snd) (k : Int) : entL F k = entL Fr k := by unfold entL; rw [h k]
theorem isSome_eq {F Fr : Int → Option (Value × List Int)} (h : ∀ k, (F k).map Prod.snd = (Fr k).map Prod.snd) (k : Int) : (F k).isSome = (Fr k).isSome := by
  have := congrArg Option.isSome (h k)
  simpa using this

theorem TMid.rr {w W : World} {F Fr : Int → Option (Value × List Int)} {cm cr : Nat} (h : TMid w W F Fr cm cr) (k : Int) : Own W (entV Fr k) (entL Fr k) ∧ Far F (entV Fr k) := by
  unfold entV entL
  cases hF : Fr k with
  | none => exact ⟨World.ownsRow_nil _ _ _ _, fun g hg => by simp [Value.ownBlock] at hg⟩
  | some p => exact ⟨(h.ofr k p.1 p.2 hF).1, h.far k p.1 p.2 hF⟩

/-- Behind a first keep that changed nothing. -/
theorem ts_idle {w W W1 : World} {Lb : Nat} {scv : Value} {F Fr : Int → Option (Value × List Int)} {c : Nat} {sl ll : List Int} {scr lst wnt : Value} (h : TS w W Lb scv F Fr c sl ll scr lst wnt) (hb : Below W.heap.size W W1) (key : Int) :
    TP w W1 Lb scv F c Fr c key sl ll scr lst wnt (entV Fr key) (Fr key).isSome := by
  have h1 : TP w W Lb scv F c Fr c key sl ll scr lst wnt (entV Fr key) (Fr key).isSome :=
    ⟨h.mid.below, h.st, h.mid.mr, fun k => (h.mid.rr k).1.rd, h.hsc.1.rd, h.hscr.1.rd, h.hlst.1.rd, h.hwnt.1, fun k _ => ⟨isSome_eq h.pl k, entL_eq h.pl k⟩, isSome_eq h.pl key, by rw [entL_eq h.pl]; exact (h.mid.rr key).1.rd, h.hwnt.2, fun k v xs hF => (h.mid.om k v xs hF).2⟩
  exact h1.later hb

/-- Behind a first keep that lengthened key's list. -/
theorem ts_more {w W W1 : World} {Lb : Nat} {scv : Value} {F Fr : Int → Option (Value × List Int)} {c : Nat} {sl ll : List Int} {scr lst wnt : Value} (h : TS w W Lb scv F Fr c sl ll scr lst wnt) {key : Int} {e : Ending} (hq : MoreQ W Lb w.heap.size scv F c key ll e W1) :
    ∃ g cap, e = .returned (.slice (some ⟨g, 0, none⟩) ll.length ll.length) ∧ entV (upd F key (.slice (some ⟨g, 0, none⟩) ll.length cap, ll)) key = .slice (some ⟨g, 0, none⟩) ll.length cap ∧ entL (upd F key (.slice (some ⟨g, 0, none⟩) ll.length cap, ll)) key = ll ∧
      TP w W1 Lb scv (upd F key (.slice (some ⟨g, 0, none⟩) ll.length cap, ll)) (if (Fr key).isSome then c else c + 1) Fr c key sl ll scr lst wnt wnt true := by
  obtain ⟨g, cap, rfl, hst, hown, hmap, hbl⟩ := hq
  have hsz := h.mid.size
  obtain ⟨hb, hgB⟩ := hbl w.heap.size (by omega) (Nat.le_refl _) (fun k v xs g hF hg => by have := (h.mid.om k v xs hF).2 g hg; omega)
  have heL : entL (upd F key (.slice (some ⟨g, 0, none⟩) ll.length cap, ll)) key = ll := by simp [entL, upd]
  have hgne : g ≠ w.heap.size ∧ g ≠ w.heap.size + 1 := by
    have ho := hst.own key _ _ (upd_same _ _ _)
    have h1 := (hst.row_ne ho (g := g) rfl).2
    refine ⟨h1, fun e => ?_⟩
    have hm := hmap (w.heap.size + 1) _ _ (by omega) h.mid.mr
    obtain ⟨es, clock, hbb⟩ := hm.block
    obtain ⟨_, _, _, cur, hcur, _⟩ := own_cur ho
    rw [e, hbb] at hcur
    cases hcur
  refine ⟨g, cap, rfl, by simp [entV, upd], heL, ?_⟩
  rw [isSome_eq h.pl] at hst
  refine ⟨h.mid.below.trans hb, hst, hmap _ _ _ (by omega) h.mid.mr, fun k => ((hown _ _ (h.mid.rr k).1 (h.mid.rr k).2).1).rd, (hown _ _ h.hsc.1 h.hsc.2).1.rd, (hown _ _ h.hscr.1 h.hscr.2).1.rd, (hown _ _ h.hlst.1 h.hlst.2).1.rd, (hown _ _ h.hwnt.1 h.hwnt.2).1, ?_, by simp [upd], ?_, (hown _ _ h.hwnt.1 h.hwnt.2).2, ?_⟩
  · intro k hk
    refine ⟨by rw [upd_other _ _ hk]; exact isSome_eq h.pl k, ?_⟩
    have : entL (upd F key (.slice (some ⟨g, 0, none⟩) ll.length cap, ll)) k = entL F k := by unfold entL; rw [upd_other _ _ hk]
    rw [this]
    exact entL_eq h.pl k
  · rw [heL]
    exact (hown _ _ h.hwnt.1 h.hwnt.2).1.rd
  · intro k v xs hF g' hg'
    by_cases hkk : k = key
    · subst hkk
      rw [upd_same] at hF
      simp only [Option.some.injEq, Prod.mk.injEq] at hF
      obtain ⟨rfl, _⟩ := hF
      simp [Value.ownBlock] at hg'
      omega
    · rw [upd_other _ _ hkk] at hF
      exact (h.mid.om k v xs hF).2 g' hg'

/-- The four clones, then the readLists. -/
theorem ts_made {w wA wB wC wD wE : World} {j : Nat} {scv scr lst wnt : Value} {sl ll : List Int} {F Fr : Int → Option (Value × List Int)} {c : Nat} (hT : TMid w wA F Fr c c) (hpl : ∀ k, (F k).map Prod.snd = (Fr k).map Prod.snd)
    (bB : Below wA.heap.size wA wB) (oB : Own wB scv sl) (nB : ∀ g, scv.ownBlock = some g → wA.heap.size ≤ g)
    (bC : Below wB.heap.size wB wC) (oC : Own wC scr sl) (nC : ∀ g, scr.ownBlock = some g → wB.heap.size ≤ g)
    (bD : Below wC.heap.size wC wD) (oD : Own wD lst ll) (nD : ∀ g, lst.ownBlock = some g → wC.heap.size ≤ g)
    (bE : Below wD.heap.size wD wE) (oE : Own wE wnt ll) (nE : ∀ g, wnt.ownBlock = some g → wD.heap.size ≤ g) (m : Nat) :
    TS w ((wE.drewN m).alloc (.cells #[.map (some w.heap.size), scv] 40)) wE.heap.size scv F Fr c sl ll scr lst wnt := by
  have hF : Below wE.heap.size wE ((wE.drewN m).alloc (.cells #[.map (some w.heap.size), scv] 40)) := ⟨rfl, rfl, rfl, by simp, fun k hk => Below.heap_alloc (wE.drewN m) _ k hk⟩
  have sB := bB.size
  have sC := bC.size
  have sD := bD.size
  have sE := bE.size
  have hfar : ∀ v : Value, (∀ g, v.ownBlock = some g → wA.heap.size ≤ g) → Far F v := by
    intro v hv g hg k v' xs' hF' hg'
    have := hv g hg
    have := (hT.om k v' xs' hF').1.lt hg'
    omega
  refine ⟨hT.later (((bB.trans (bC.mono sB)).trans (bD.mono (by omega))).trans ((bE.mono (by omega)).trans (hF.mono (by omega)))), hpl, heap_alloc_new (wE.drewN m) _, ⟨(((oB.later bC).later bD).later bE).later hF, hfar _ nB⟩, ⟨((oC.later bD).later bE).later hF, hfar _ (fun g hg => by have := nC g hg; omega)⟩, ⟨(oD.later bE).later hF, hfar _ (fun g hg => by have := nD g hg; omega)⟩, ⟨oE.later hF, hfar _ (fun g hg => by have := nE g hg; omega)⟩⟩

end Go.Proofs.Qxb6617284a
