/-
  The script law, its sixth loop (block 10 of function 4): the map against the lists.
-/
import Derived.Test.Qxb6617284aCode
import Derived.Test.Qxb6617284aInv3
namespace Go.Proofs.Qxb6617284a
set_option linter.unusedVariables false
open Go.RowKit Go.Deep Go.Maps

set_option maxRecDepth 100000 in
set_option maxHeartbeats 3200000 in
theorem loop6 (code : Code) (hcode : Try.f4.body.bind (findBlk 10) = some code) {Kc : Act → World → Prop} {Qp : Ending → World → Prop} (kb ko nk ck Mb Ob M N Fb cF Lb cL Bb cB : Nat) (w5 w0 : World) (K : Nat → Int) (LL : Nat → List Int) {c1 c2 c3 c4 c6 c8 c10 c11 c12 c13 c16 c17 c18 c19 c21 c24 c25 c26 c27 c28 c29 c30 c31 c32 c33 c34 c35 c36 c37 c38 c39 c40 c41 c42 c43 c44 c45 c46 c47 c48 c49 c50 c51 c52 c53 c54 c55 c56 c57 c58 c59 c60 c61 c62 c63 c64 c65 c66 c67 c68 c69 c70 c71 c72 c73 c74 c75 c76 c77 c78 c79 c80 c81 c82 c83 c84 c85 c86 c87 c88 c89 c90 c91 c92 c93 c94 c95 c96 c97 c98 c99 c100 c101 c102 c103 c104 c105 c106 c107 c108 c109 c110 c111 c112 c113 c114 c115 c116 c117 c118 c119 c120 c121 c122 c123 c124 c125 c126 c127 c128 c129 c130 c131 c132 c133 c134 c135 c136 c137 c138 c139 c140 c141 c142 c143 c144 c145 c146 c147 c148 c149 c150 c151 c152 c153 c154 c155 c156 c157 c158 c159 c160 c161 c162 c163 c164 c165 c166 c167 c168 c169 c170 c171 c172 c173 c174 c175 c176 c177 c178 c179 c180 c181 c182 c183 c184 c185 c186 c187 c188 c189 c190 c191 c192 c193 c194 c195 c196 c197 c198 c199 c200 c201 c202 c203 c204 c205 c206 c207 c208 c209 c210 c211 c212 c213 c214 c215 c216 c217 c218 c219 c220 c221 c222 c223 c224 c225 c226 c227 c228 c229 c230 c231 c232 c233 c234 c235 c236 c237 c238 c239 c240 c241 c242 c243 c244 c245 c246 c247 c248 c249 c250 c251 c252 c253 c254 c255 c256 c257 c258 c259 c260 c261 c262 c263 c264 c265 c266 c267 c268 c269 c270 c271 c272 c273 c274 c275 c276 c277 c278 c279 c280 c281 c282 c283 c284 c285 c286 c287 c288 c289 c290 c291 c292 c293 c294 c295 c296 c297 c298 c299 c300 c301 c302 c303 c304 c305 c306 c307 c308 : Value}
    (hNk : N ≤ nk) (hN : N ≤ 65536) (hnk : nk ≤ 9223372036854775807) (hF : Fin2 w5 kb ko Mb Ob M N K LL) (hfm : MapIs w5 Fb (ixM (fst' K LL N)) cF) (hlg : MapIs w5 Lb (ixM (lng K LL N)) cL) (hbm : MapIs w5 Bb (boM (brk K LL N N)) cB) (hwf : ∀ i, i < N → (Lit.int .i64 (K i)).wf = true) (hLn : ∀ j, j < N → (LL j).length ≤ 131072)
    (h0 : Inv5 w5 0 (mtc K LL N) 0 w0) (hK : ∀ (u4 u23 u24 u25 u26 u27 u28 u211 u212 u213 u214 u215 u216 u217 u218 u219 u220 u221 u222 u223 u224 u225 u226 u227 u228 u229 u230 u231 u232 u233 u234 u235 u236 u237 u238 u239 u240 u241 u242 u243 u244 u245 u246 u247 u248 u249 u250 u251 u252 u253 u254 u255 u256 u257 u258 u259 u260 u261 u262 u263 u264 u265 u266 u267 u268 u269 u270 u271 u272 u273 u274 u275 u276 u277 u278 u279 : Value) wc, Inv5 w5 0 (mtc K LL N) N wc → Kc ⟨#[.slice (some ⟨kb, ko, none⟩) nk ck, c1, c2, c3, u4, .int .i64 N, c6, .slice (some ⟨Mb, 0, none⟩) N N, c8, .map (some M), c10, c11, c12, c13, .map (some Fb), .map (some Lb), c16, c17, c18, c19, .map (some Bb), c21, .map (some w5.heap.size), u23, u24, u25, u26, u27, u28, c29, c30, c31, c32, c33, c34, c35, c36, c37, c38, c39, c40, c41, c42, c43, c44, c45, c46, c47, c48, c49, c50, c51, c52, c53, c54, c55, c56, c57, c58, c59, c60, c61, c62, c63, c64, c65, c66, c67, c68, c69, c70, c71, c72, c73, c74, c75, c76, c77, c78, c79, c80, c81, c82, c83, c84, c85, c86, c87, c88, c89, c90, c91, c92, c93, c94, c95, c96, c97, c98, c99, c100, c101, c102, c103, c104, c105, c106, c107, c108, c109, c110, c111, c112, c113, c114, c115, c116, c117, c118, c119, c120, c121, c122, c123, c124, c125, c126, c127, c128, c129, c130, c131, c132, c133, c134, c135, c136, c137, c138, c139, c140, c141, c142, c143, c144, c145, c146, c147, c148, c149, c150, c151, c152, c153, c154, c155, c156, c157, c158, c159, c160, c161, c162, c163, c164, c165, c166, c167, c168, c169, c170, c171, c172, c173, c174, c175, c176, c177, c178, c179, c180, c181, c182, c183, c184, c185, c186, c187, c188, c189, c190, c191, c192, c193, c194, c195, c196, c197, c198, c199, c200, c201, c202, c203, c204, c205, c206, c207, c208, c209, c210, u211, u212, u213, u214, u215, u216, u217, u218, u219, u220, u221, u222, u223, u224, u225, u226, u227, u228, u229, u230, u231, u232, u233, u234, u235, u236, u237, u238, u239, u240, u241, u242, u243, u244, u245, u246, u247, u248, u249, u250, u251, u252, u253, u254, u255, u256, u257, u258, u259, u260, u261, u262, u263, u264, u265, u266, u267, u268, u269, u270, u271, u272, u273, u274, u275, u276, u277, u278, u279, c280, c281, c282, c283, c284, c285, c286, c287, c288, c289, c290, c291, c292, c293, c294, c295, c296, c297, c298, c299, c300, c301, c302, c303, c304, c305, c306, c307, c308], []⟩ wc) :
    Code.wp Try.prog code (Exit.then Kc (bodyPost Try.prog Try.f4 Qp)) ⟨#[.slice (some ⟨kb, ko, none⟩) nk ck, c1, c2, c3, c4, .int .i64 N, c6, .slice (some ⟨Mb, 0, none⟩) N N, c8, .map (some M), c10, c11, c12, c13, .map (some Fb), .map (some Lb), c16, c17, c18, c19, .map (some Bb), c21, .map (some w5.heap.size), .int .i64 0, c24, c25, c26, c27, c28, c29, c30, c31, c32, c33, c34, c35, c36, c37, c38, c39, c40, c41, c42, c43, c44, c45, c46, c47, c48, c49, c50, c51, c52, c53, c54, c55, c56, c57, c58, c59, c60, c61, c62, c63, c64, c65, c66, c67, c68, c69, c70, c71, c72, c73, c74, c75, c76, c77, c78, c79, c80, c81, c82, c83, c84, c85, c86, c87, c88, c89, c90, c91, c92, c93, c94, c95, c96, c97, c98, c99, c100, c101, c102, c103, c104, c105, c106, c107, c108, c109, c110, c111, c112, c113, c114, c115, c116, c117, c118, c119, c120, c121, c122, c123, c124, c125, c126, c127, c128, c129, c130, c131, c132, c133, c134, c135, c136, c137, c138, c139, c140, c141, c142, c143, c144, c145, c146, c147, c148, c149, c150, c151, c152, c153, c154, c155, c156, c157, c158, c159, c160, c161, c162, c163, c164, c165, c166, c167, c168, c169, c170, c171, c172, c173, c174, c175, c176, c177, c178, c179, c180, c181, c182, c183, c184, c185, c186, c187, c188, c189, c190, c191, c192, c193, c194, c195, c196, c197, c198, c199, c200, c201, c202, c203, c204, c205, c206, c207, c208, c209, c210, c211, c212, c213, c214, c215, c216, c217, c218, c219, c220, c221, c222, c223, c224, c225, c226, c227, c228, c229, c230, c231, c232, c233, c234, c235, c236, c237, c238, c239, c240, c241, c242, c243, c244, c245, c246, c247, c248, c249, c250, c251, c252, c253, c254, c255, c256, c257, c258, c259, c260, c261, c262, c263, c264, c265, c266, c267, c268, c269, c270, c271, c272, c273, c274, c275, c276, c277, c278, c279, c280, c281, c282, c283, c284, c285, c286, c287, c288, c289, c290, c291, c292, c293, c294, c295, c296, c297, c298, c299, c300, c301, c302, c303, c304, c305, c306, c307, c308], []⟩ w0 := by
  conv at hcode => lhs; whnf
  simp only [Option.some.injEq] at hcode
  subst hcode
  have HK : Hid (∀ (u4 u23 u24 u25 u26 u27 u28 u211 u212 u213 u214 u215 u216 u217 u218 u219 u220 u221 u222 u223 u224 u225 u226 u227 u228 u229 u230 u231 u232 u233 u234 u235 u236 u237 u238 u239 u240 u241 u242 u243 u244 u245 u246 u247 u248 u249 u250 u251 u252 u253 u254 u255 u256 u257 u258 u259 u260 u261 u262 u263 u264 u265 u266 u267 u268 u269 u270 u271 u272 u273 u274 u275 u276 u277 u278 u279 : Value) wc, Inv5 w5 0 (mtc K LL N) N wc → Kc ⟨#[.slice (some ⟨kb, ko, none⟩) nk ck, c1, c2, c3, u4, .int .i64 N, c6, .slice (some ⟨Mb, 0, none⟩) N N, c8, .map (some M), c10, c11, c12, c13, .map (some Fb), .map (some Lb), c16, c17, c18, c19, .map (some Bb), c21, .map (some w5.heap.size), u23, u24, u25, u26, u27, u28, c29, c30, c31, c32, c33, c34, c35, c36, c37, c38, c39, c40, c41, c42, c43, c44, c45, c46, c47, c48, c49, c50, c51, c52, c53, c54, c55, c56, c57, c58, c59, c60, c61, c62, c63, c64, c65, c66, c67, c68, c69, c70, c71, c72, c73, c74, c75, c76, c77, c78, c79, c80, c81, c82, c83, c84, c85, c86, c87, c88, c89, c90, c91, c92, c93, c94, c95, c96, c97, c98, c99, c100, c101, c102, c103, c104, c105, c106, c107, c108, c109, c110, c111, c112, c113, c114, c115, c116, c117, c118, c119, c120, c121, c122, c123, c124, c125, c126, c127, c128, c129, c130, c131, c132, c133, c134, c135, c136, c137, c138, c139, c140, c141, c142, c143, c144, c145, c146, c147, c148, c149, c150, c151, c152, c153, c154, c155, c156, c157, c158, c159, c160, c161, c162, c163, c164, c165, c166, c167, c168, c169, c170, c171, c172, c173, c174, c175, c176, c177, c178, c179, c180, c181, c182, c183, c184, c185, c186, c187, c188, c189, c190, c191, c192, c193, c194, c195, c196, c197, c198, c199, c200, c201, c202, c203, c204, c205, c206, c207, c208, c209, c210, u211, u212, u213, u214, u215, u216, u217, u218, u219, u220, u221, u222, u223, u224, u225, u226, u227, u228, u229, u230, u231, u232, u233, u234, u235, u236, u237, u238, u239, u240, u241, u242, u243, u244, u245, u246, u247, u248, u249, u250, u251, u252, u253, u254, u255, u256, u257, u258, u259, u260, u261, u262, u263, u264, u265, u266, u267, u268, u269, u270, u271, u272, u273, u274, u275, u276, u277, u278, u279, c280, c281, c282, c283, c284, c285, c286, c287, c288, c289, c290, c291, c292, c293, c294, c295, c296, c297, c298, c299, c300, c301, c302, c303, c304, c305, c306, c307, c308], []⟩ wc) := hK
  have HF : Hid (Fin2 w5 kb ko Mb Ob M N K LL) := hF
  have HG : Hid (MapIs w5 Lb (ixM (lng K LL N)) cL) := hlg
  have HFm : Hid (MapIs w5 Fb (ixM (fst' K LL N)) cF) := hfm
  have HB : Hid (MapIs w5 Bb (boM (brk K LL N N)) cB) := hbm
  have HW : Hid (∀ i, i < N → (Lit.int .i64 (K i)).wf = true) := hwf
  have HLn : Hid (∀ j, j < N → (LL j).length ≤ 131072) := hLn
  clear hK hF hwf hLn hlg hfm hbm
  go_wp2_with fail
  go_loopw [23] (fun i wr => ∃ k : Nat, k ≤ N ∧ i = .int .i64 k ∧ Inv5 w5 0 (mtc K LL N) k wr) (fun i _ => N - (intOf i).toNat)
  case atStart => exact ⟨0, Nat.zero_le _, rfl, h0⟩
  case round =>
    clear h0
    obtain ⟨k, hk, rfl, hI⟩ := hrel
    by_cases hlt : k < N
    · have hFr := HF.out.later hI.below
      have hkey := hFr.keys k hlt
      obtain ⟨ma, mc, hm1, hm2⟩ := hFr.model k hlt
      obtain ⟨fn, hmp, hmr⟩ := hFr.map
      have hwk := HW.out k hlt
      have hlm := HLn.out k hlt
      have hFn : (fn (K k)).isSome = (st K LL N (K k)).isSome := (hmr (K k)).1
      have hfmr : MapIs wr Fb (ixM (fst' K LL N)) cF := HFm.out.kept (hI.below.block Fb HFm.out.lt)
      cases hf : fst' K LL N (K k) with
      | none =>
        have hs : st K LL N (K k) = none := by
          have := st_some_of (K := K) (LL := LL) N (K k)
          rw [hf] at this
          simpa using this
        have hfn : fn (K k) = none := by rw [hs] at hFn; simpa using hFn
        have hlkm : (Instr.lookup 26 (.map (some M)) (.int .i64 (K k)) true).run Try.prog wr = .ok (.tuple #[.slice none 0 0, .bool false]) wr := by
          have := hmp.look_ok Try.underlying26 (zero22 wr) hwk
          simpa [hfn] using this
        have hlkf : (Instr.lookup 36 (.map (some Fb)) (.int .i64 (K k)) true).run Try.prog wr = .ok (.tuple #[.int .i64 0, .bool false]) wr := by
          have := hfmr.look_ok Try.underlying36 (zero3 wr) hwk
          simpa [ixM, hf] using this
        have R : Hid (Inv5 w5 0 (mtc K LL N) (k + 1) wr) := inv5_skip hI (mtc_same (by rw [hs]; simp))
        obtain ⟨Kk, hKk⟩ : ∃ x, x = K k := ⟨_, rfl⟩
        rw [← hKk] at hkey hlkm hlkf
        clear hI hFr hwk hf hKk hm2 hs hfn hmp hmr hFn hfmr
        go_wp2_with fail
        go_roundw
        case rel => exact ⟨k + 1, by omega, by go_num, R.out⟩
        case measure => simp [intOf]; omega
      | some f =>
        obtain ⟨hfN, -, -, hstf⟩ := fst_law N (K k) f hf
        have hss : (st K LL N (K k)).isSome = true := by rw [st_some_of, hf]; rfl
        obtain ⟨x, hx⟩ := Option.isSome_iff_exists.1 hss
        have hvr0 := (hmr (K k)).2
        have hlkm0 := hmp.look_ok Try.underlying26 (zero22 wr) hwk
        rw [hFn, hx] at hlkm0
        rw [hx] at hvr0
        obtain ⟨va, vc, hve⟩ := rd_shape hvr0
        rw [hve] at hvr0 hlkm0
        simp only [Option.getD_some] at hvr0 hlkm0
        have hvr : Rd wr (.slice va x.length vc) x := hvr0
        have hlkm : (Instr.lookup 26 (.map (some M)) (.int .i64 (K k)) true).run Try.prog wr = .ok (.tuple #[.slice va x.length vc, .bool true]) wr := hlkm0
        clear hvr0 hlkm0 hss hve
        have hlkf : (Instr.lookup 36 (.map (some Fb)) (.int .i64 (K k)) true).run Try.prog wr = .ok (.tuple #[.int .i64 (f : Int), .bool true]) wr := by
          have := hfmr.look_ok Try.underlying36 (zero3 wr) hwk
          simpa [ixM, hf] using this
        clear hfmr
        by_cases hkf : (k : Int) = (f : Int)
        · obtain rfl : k = f := by omega
          clear hkf
          obtain ⟨hle, hag⟩ := hstf x hx
          have HC : Hid (∀ nq, Calls Try.prog 8 #[.slice ma (LL k).length mc, .slice va x.length vc] (wr.drewN nq) fun e w' => e = .returned (.bool true) ∧ ∃ m, w' = wr.drewN m) := by
            intro nq
            have := agree_any (w := wr.drewN nq) hm2 hvr
            rw [hag] at this
            exact this.mono (fun e w' h => ⟨h.1, let ⟨m, hm⟩ := h.2; ⟨nq + m, by rw [hm, World.drewN_drewN]⟩⟩)
          cases hbk : brk K LL N N (K k) with
          | true =>
            have hlkb : ∀ nq, (Instr.lookup 38 (.map (some Bb)) (.int .i64 (K k)) false).run Try.prog (wr.drewN nq) = .ok (.bool true) (wr.drewN nq) := by
              intro nq
              have hb' : MapIs (wr.drewN nq) Bb (boM (brk K LL N N)) cB := HB.out.kept (hI.below.block Bb HB.out.lt)
              have := hb'.look Try.underlying38 (zero4 _) hwk
              rw [boM_getD, hbk] at this
              exact this
            by_cases hm : x = LL k
            ·
              have HR : Hid (∀ nq, ∃ w1, (Instr.mapUpdate 38 (.map (some w5.heap.size)) (.int .i64 (K k)) (.bool true)).run Try.prog (wr.drewN nq) = .ok () w1 ∧ Inv5 w5 0 (mtc K LL N) (k + 1) w1) := fun nq => inv5_store (hI.drew nq) (by omega) hwk (mtc_new (by rw [hx]; rw [hm]))
              have HS : Hid (∀ nq, Calls Try.prog 11 #[.slice va x.length vc, .slice ma (LL k).length mc] (wr.drewN nq) fun e w' => e = .returned (.bool true) ∧ ∃ m, w' = wr.drewN m) := by
                intro nq
                have := same_any (w := wr.drewN nq) hvr hm2
                rw [show decide (x = LL k) = true by simp [hm]] at this
                exact this.mono (fun e w' h => ⟨h.1, let ⟨m, hm⟩ := h.2; ⟨nq + m, by rw [hm, World.drewN_drewN]⟩⟩)
              obtain ⟨Kk, hKk⟩ : ∃ x, x = K k := ⟨_, rfl⟩
              obtain ⟨Lk, hLk⟩ : ∃ x, x = (LL k).length := ⟨_, rfl⟩
              obtain ⟨Lx, hLx⟩ : ∃ y, y = x.length := ⟨_, rfl⟩
              rw [← hKk] at hkey hlkm hlkf HR hlkb
              rw [← hLk] at hm1 hlm HS hle HC
              rw [← hLx] at hlkm HS hle HC
              clear hI hFr hwk hf hKk hLk hLx hm2 hvr hx hstf hm hmp hmr hFn hbk hag
              go_wp2_with fail
              refine (HC.out 0).mono ?_
              rintro e wx ⟨rfl, mHC, hwx⟩
              subst hwx
              go_wp2_with fail
              refine (HS.out _).mono ?_
              rintro e wx ⟨rfl, mHS, hwx⟩
              subst hwx
              obtain ⟨w9, r9, R0⟩ := HR.out mHS
              have R : Hid (Inv5 w5 0 (mtc K LL N) (k + 1) w9) := R0
              clear R0
              go_wp2_with fail
              go_roundw
              case rel => exact ⟨k + 1, by omega, by go_num, R.out⟩
              case measure => simp [intOf]; omega
            ·
              have HR : Hid (∀ nq, Inv5 w5 0 (mtc K LL N) (k + 1) (wr.drewN nq)) := fun nq => (inv5_skip hI (mtc_same (by rw [hx]; intro e; exact hm (Option.some.inj e)))).drew nq
              have HS : Hid (∀ nq, Calls Try.prog 11 #[.slice va x.length vc, .slice ma (LL k).length mc] (wr.drewN nq) fun e w' => e = .returned (.bool false) ∧ ∃ m, w' = wr.drewN m) := by
                intro nq
                have := same_any (w := wr.drewN nq) hvr hm2
                rw [show decide (x = LL k) = false by simp [hm]] at this
                exact this.mono (fun e w' h => ⟨h.1, let ⟨m, hm⟩ := h.2; ⟨nq + m, by rw [hm, World.drewN_drewN]⟩⟩)
              obtain ⟨Kk, hKk⟩ : ∃ x, x = K k := ⟨_, rfl⟩
              obtain ⟨Lk, hLk⟩ : ∃ x, x = (LL k).length := ⟨_, rfl⟩
              obtain ⟨Lx, hLx⟩ : ∃ y, y = x.length := ⟨_, rfl⟩
              rw [← hKk] at hkey hlkm hlkf hlkb
              rw [← hLk] at hm1 hlm HS hle HC
              rw [← hLx] at hlkm HS hle HC
              clear hI hFr hwk hf hKk hLk hLx hm2 hvr hx hstf hm hmp hmr hFn hbk hag
              go_wp2_with fail
              refine (HC.out 0).mono ?_
              rintro e wx ⟨rfl, mHC, hwx⟩
              subst hwx
              go_wp2_with fail
              refine (HS.out _).mono ?_
              rintro e wx ⟨rfl, mHS, hwx⟩
              subst hwx
              go_wp2_with fail
              go_roundw
              case rel => exact ⟨k + 1, by omega, by go_num, HR.out _⟩
              case measure => simp [intOf]; omega
          | false =>
            have hlkb : ∀ nq, (Instr.lookup 38 (.map (some Bb)) (.int .i64 (K k)) false).run Try.prog (wr.drewN nq) = .ok (.bool false) (wr.drewN nq) := by
              intro nq
              have hb' : MapIs (wr.drewN nq) Bb (boM (brk K LL N N)) cB := HB.out.kept (hI.below.block Bb HB.out.lt)
              have := hb'.look Try.underlying38 (zero4 _) hwk
              rw [boM_getD, hbk] at this
              exact this
            have hls : (lng K LL N (K k)).isSome = true := by rw [lng_some_of, hf]; rfl
            obtain ⟨j, hj⟩ := Option.isSome_iff_exists.1 hls
            obtain ⟨hjN, -, -, -⟩ := lng_law N (K k) j hj
            have hxj : x = LL j := by
              have := st_is_long hj (fun t ht hk hn => by have := brk_law N (K k) hbk t ht hk hn; rw [hj] at this; exact this)
              rw [hx] at this
              exact Option.some.inj this
            have hlkl : ∀ nq, (Instr.lookup 36 (.map (some Lb)) (.int .i64 (K k)) false).run Try.prog (wr.drewN nq) = .ok (.int .i64 (j : Int)) (wr.drewN nq) := by
              intro nq
              have hlg' : MapIs (wr.drewN nq) Lb (ixM (lng K LL N)) cL := HG.out.kept (hI.below.block Lb HG.out.lt)
              have := hlg'.look Try.underlying36 (zero3 _) hwk
              simpa [ixM, hj] using this
            obtain ⟨mja, mjc, hmj, hmj2⟩ := hFr.model j hjN
            rw [← hxj] at hmj hmj2
            have HD : Hid (∀ nq, Calls Try.prog 11 #[.slice va x.length vc, .slice mja x.length mjc] (wr.drewN nq) fun e w' => e = .returned (.bool true) ∧ ∃ m, w' = wr.drewN m) := by
              intro nq
              have := same_any (w := wr.drewN nq) hvr hmj2
              rw [show decide (x = x) = true by simp] at this
              exact this.mono (fun e w' h => ⟨h.1, let ⟨m, hm⟩ := h.2; ⟨nq + m, by rw [hm, World.drewN_drewN]⟩⟩)
            by_cases hm : x = LL k
            ·
              have HR : Hid (∀ nq, ∃ w1, (Instr.mapUpdate 38 (.map (some w5.heap.size)) (.int .i64 (K k)) (.bool true)).run Try.prog (wr.drewN nq) = .ok () w1 ∧ Inv5 w5 0 (mtc K LL N) (k + 1) w1) := fun nq => inv5_store (hI.drew nq) (by omega) hwk (mtc_new (by rw [hx]; rw [hm]))
              have HS : Hid (∀ nq, Calls Try.prog 11 #[.slice va x.length vc, .slice ma (LL k).length mc] (wr.drewN nq) fun e w' => e = .returned (.bool true) ∧ ∃ m, w' = wr.drewN m) := by
                intro nq
                have := same_any (w := wr.drewN nq) hvr hm2
                rw [show decide (x = LL k) = true by simp [hm]] at this
                exact this.mono (fun e w' h => ⟨h.1, let ⟨m, hm⟩ := h.2; ⟨nq + m, by rw [hm, World.drewN_drewN]⟩⟩)
              obtain ⟨Kk, hKk⟩ : ∃ x, x = K k := ⟨_, rfl⟩
              obtain ⟨Lk, hLk⟩ : ∃ x, x = (LL k).length := ⟨_, rfl⟩
              obtain ⟨Lx, hLx⟩ : ∃ y, y = x.length := ⟨_, rfl⟩
              rw [← hKk] at hkey hlkm hlkf HR hlkb hlkl
              rw [← hLk] at hm1 hlm HS hle HC
              rw [← hLx] at hlkm HS hle HC HD hmj
              clear hI hFr hwk hf hKk hLk hLx hm2 hvr hx hstf hm hmp hmr hFn hbk hag hj hmj2 hls hxj
              go_wp2_with fail
              refine (HC.out 0).mono ?_
              rintro e wx ⟨rfl, mHC, hwx⟩
              subst hwx
              go_wp2_with fail
              refine (HD.out _).mono ?_
              rintro e wx ⟨rfl, mHD, hwx⟩
              subst hwx
              go_wp2_with fail
              refine (HS.out _).mono ?_
              rintro e wx ⟨rfl, mHS, hwx⟩
              subst hwx
              obtain ⟨w9, r9, R0⟩ := HR.out mHS
              have R : Hid (Inv5 w5 0 (mtc K LL N) (k + 1) w9) := R0
              clear R0
              go_wp2_with fail
              go_roundw
              case rel => exact ⟨k + 1, by omega, by go_num, R.out⟩
              case measure => simp [intOf]; omega
            ·
              have HR : Hid (∀ nq, Inv5 w5 0 (mtc K LL N) (k + 1) (wr.drewN nq)) := fun nq => (inv5_skip hI (mtc_same (by rw [hx]; intro e; exact hm (Option.some.inj e)))).drew nq
              have HS : Hid (∀ nq, Calls Try.prog 11 #[.slice va x.length vc, .slice ma (LL k).length mc] (wr.drewN nq) fun e w' => e = .returned (.bool false) ∧ ∃ m, w' = wr.drewN m) := by
                intro nq
                have := same_any (w := wr.drewN nq) hvr hm2
                rw [show decide (x = LL k) = false by simp [hm]] at this
                exact this.mono (fun e w' h => ⟨h.1, let ⟨m, hm⟩ := h.2; ⟨nq + m, by rw [hm, World.drewN_drewN]⟩⟩)
              obtain ⟨Kk, hKk⟩ : ∃ x, x = K k := ⟨_, rfl⟩
              obtain ⟨Lk, hLk⟩ : ∃ x, x = (LL k).length := ⟨_, rfl⟩
              obtain ⟨Lx, hLx⟩ : ∃ y, y = x.length := ⟨_, rfl⟩
              rw [← hKk] at hkey hlkm hlkf hlkb hlkl
              rw [← hLk] at hm1 hlm HS hle HC
              rw [← hLx] at hlkm HS hle HC HD hmj
              clear hI hFr hwk hf hKk hLk hLx hm2 hvr hx hstf hm hmp hmr hFn hbk hag hj hmj2 hls hxj
              go_wp2_with fail
              refine (HC.out 0).mono ?_
              rintro e wx ⟨rfl, mHC, hwx⟩
              subst hwx
              go_wp2_with fail
              refine (HD.out _).mono ?_
              rintro e wx ⟨rfl, mHD, hwx⟩
              subst hwx
              go_wp2_with fail
              refine (HS.out _).mono ?_
              rintro e wx ⟨rfl, mHS, hwx⟩
              subst hwx
              go_wp2_with fail
              go_roundw
              case rel => exact ⟨k + 1, by omega, by go_num, HR.out _⟩
              case measure => simp [intOf]; omega
        · have hkf' : ((k : Int) == (f : Int)) = false := by simp; omega
          clear hkf
          by_cases hm : x = LL k
          ·
            have HR : Hid (∀ nq, ∃ w1, (Instr.mapUpdate 38 (.map (some w5.heap.size)) (.int .i64 (K k)) (.bool true)).run Try.prog (wr.drewN nq) = .ok () w1 ∧ Inv5 w5 0 (mtc K LL N) (k + 1) w1) := fun nq => inv5_store (hI.drew nq) (by omega) hwk (mtc_new (by rw [hx]; rw [hm]))
            have HS : Hid (∀ nq, Calls Try.prog 11 #[.slice va x.length vc, .slice ma (LL k).length mc] (wr.drewN nq) fun e w' => e = .returned (.bool true) ∧ ∃ m, w' = wr.drewN m) := by
              intro nq
              have := same_any (w := wr.drewN nq) hvr hm2
              rw [show decide (x = LL k) = true by simp [hm]] at this
              exact this.mono (fun e w' h => ⟨h.1, let ⟨m, hm⟩ := h.2; ⟨nq + m, by rw [hm, World.drewN_drewN]⟩⟩)
            obtain ⟨Kk, hKk⟩ : ∃ x, x = K k := ⟨_, rfl⟩
            obtain ⟨Lk, hLk⟩ : ∃ x, x = (LL k).length := ⟨_, rfl⟩
            obtain ⟨Lx, hLx⟩ : ∃ y, y = x.length := ⟨_, rfl⟩
            rw [← hKk] at hkey hlkm hlkf HR
            rw [← hLk] at hm1 hlm HS
            rw [← hLx] at hlkm HS
            clear hI hFr hwk hf hKk hLk hLx hm2 hvr hx hstf hm hmp hmr hFn 
            go_wp2_with fail
            refine (HS.out 0).mono ?_
            rintro e wx ⟨rfl, mHS, hwx⟩
            subst hwx
            obtain ⟨w9, r9, R0⟩ := HR.out mHS
            have R : Hid (Inv5 w5 0 (mtc K LL N) (k + 1) w9) := R0
            clear R0
            go_wp2_with fail
            go_roundw
            case rel => exact ⟨k + 1, by omega, by go_num, R.out⟩
            case measure => simp [intOf]; omega
          ·
            have HR : Hid (∀ nq, Inv5 w5 0 (mtc K LL N) (k + 1) (wr.drewN nq)) := fun nq => (inv5_skip hI (mtc_same (by rw [hx]; intro e; exact hm (Option.some.inj e)))).drew nq
            have HS : Hid (∀ nq, Calls Try.prog 11 #[.slice va x.length vc, .slice ma (LL k).length mc] (wr.drewN nq) fun e w' => e = .returned (.bool false) ∧ ∃ m, w' = wr.drewN m) := by
              intro nq
              have := same_any (w := wr.drewN nq) hvr hm2
              rw [show decide (x = LL k) = false by simp [hm]] at this
              exact this.mono (fun e w' h => ⟨h.1, let ⟨m, hm⟩ := h.2; ⟨nq + m, by rw [hm, World.drewN_drewN]⟩⟩)
            obtain ⟨Kk, hKk⟩ : ∃ x, x = K k := ⟨_, rfl⟩
            obtain ⟨Lk, hLk⟩ : ∃ x, x = (LL k).length := ⟨_, rfl⟩
            obtain ⟨Lx, hLx⟩ : ∃ y, y = x.length := ⟨_, rfl⟩
            rw [← hKk] at hkey hlkm hlkf
            rw [← hLk] at hm1 hlm HS
            rw [← hLx] at hlkm HS
            clear hI hFr hwk hf hKk hLk hLx hm2 hvr hx hstf hm hmp hmr hFn 
            go_wp2_with fail
            refine (HS.out 0).mono ?_
            rintro e wx ⟨rfl, mHS, hwx⟩
            subst hwx
            go_wp2_with fail
            go_roundw
            case rel => exact ⟨k + 1, by omega, by go_num, HR.out _⟩
            case measure => simp [intOf]; omega
    · go_wp2_with fail
      obtain rfl : k = N := by omega
      exact HK.out _ _ _ _ _ _ _ _ _ _ _ _ _ _ _ _ _ _ _ _ _ _ _ _ _ _ _ _ _ _ _ _ _ _ _ _ _ _ _ _ _ _ _ _ _ _ _ _ _ _ _ _ _ _ _ _ _ _ _ _ _ _ _ _ _ _ _ _ _ _ _ _ _ _ _ _ _ hI
end Go.Proofs.Qxb6617284a
