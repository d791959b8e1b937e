/-
  The script law, its fifth loop (block 8 of function 4): which keys' lists do not all agree with a longest one.
-/
import Derived.Test.Qxb6617284aCode
import Derived.Test.Qxb6617284aInv3
namespace Go.Proofs.Qxb6617284a
set_option linter.unusedVariables false
open Go.RowKit Go.Deep Go.Maps

set_option maxRecDepth 100000 in
set_option maxHeartbeats 1600000 in
theorem loop5 (code : Code) (hcode : Try.f4.body.bind (findBlk 8) = some code) {Kc : Act → World → Prop} {Qp : Ending → World → Prop} (kb ko nk ck Mb Ob M N Lb cL : Nat) (w4 w0 : World) (K : Nat → Int) (LL : Nat → List Int) {c1 c2 c3 c4 c6 c8 c9 c10 c11 c12 c13 c14 c16 c17 c18 c19 c22 c23 c24 c25 c26 c27 c28 c29 c30 c31 c32 c33 c34 c35 c36 c37 c38 c39 c40 c41 c42 c43 c44 c45 c46 c47 c48 c49 c50 c51 c52 c53 c54 c55 c56 c57 c58 c59 c60 c61 c62 c63 c64 c65 c66 c67 c68 c69 c70 c71 c72 c73 c74 c75 c76 c77 c78 c79 c80 c81 c82 c83 c84 c85 c86 c87 c88 c89 c90 c91 c92 c93 c94 c95 c96 c97 c98 c99 c100 c101 c102 c103 c104 c105 c106 c107 c108 c109 c110 c111 c112 c113 c114 c115 c116 c117 c118 c119 c120 c121 c122 c123 c124 c125 c126 c127 c128 c129 c130 c131 c132 c133 c134 c135 c136 c137 c138 c139 c140 c141 c142 c143 c144 c145 c146 c147 c148 c149 c150 c151 c152 c153 c154 c155 c156 c157 c158 c159 c160 c161 c162 c163 c164 c165 c166 c167 c168 c169 c170 c171 c172 c173 c174 c175 c176 c177 c178 c179 c180 c181 c182 c183 c184 c185 c186 c187 c188 c189 c190 c191 c192 c193 c194 c195 c196 c197 c198 c199 c200 c201 c202 c203 c204 c205 c206 c207 c208 c209 c210 c211 c212 c213 c214 c215 c216 c217 c218 c219 c220 c221 c222 c223 c224 c225 c226 c227 c228 c229 c230 c231 c232 c233 c234 c235 c236 c237 c238 c239 c240 c241 c242 c243 c244 c245 c246 c247 c248 c249 c250 c251 c252 c253 c254 c255 c256 c257 c258 c259 c260 c261 c262 c263 c264 c265 c266 c267 c268 c269 c270 c271 c272 c273 c274 c275 c276 c277 c278 c279 c280 c281 c282 c283 c284 c285 c286 c287 c288 c289 c290 c291 c292 c293 c294 c295 c296 c297 c298 c299 c300 c301 c302 c303 c304 c305 c306 c307 c308 : Value}
    (hNk : N ≤ nk) (hN : N ≤ 65536) (hnk : nk ≤ 9223372036854775807) (hF : Fin2 w4 kb ko Mb Ob M N K LL) (hlg : MapIs w4 Lb (ixM (lng K LL N)) cL) (hwf : ∀ i, i < N → (Lit.int .i64 (K i)).wf = true) (hLn : ∀ j, j < N → (LL j).length ≤ 131072)
    (h0 : Inv5 w4 0 (brk K LL N) 0 w0) (hK : ∀ (u21 u179 u180 u181 u182 u183 u184 u185 u186 u187 u188 u189 u190 u191 u192 u193 u194 u195 u196 u197 u198 u199 u200 u201 u202 u203 u204 u205 u206 u207 u208 u209 : Value) wc, Inv5 w4 0 (brk K LL N) N wc → Kc ⟨#[.slice (some ⟨kb, ko, none⟩) nk ck, c1, c2, c3, c4, .int .i64 N, c6, .slice (some ⟨Mb, 0, none⟩) N N, c8, c9, c10, c11, c12, c13, c14, .map (some Lb), c16, c17, c18, c19, .map (some w4.heap.size), u21, c22, c23, c24, c25, c26, c27, c28, c29, c30, c31, c32, c33, c34, c35, c36, c37, c38, c39, c40, c41, c42, c43, c44, c45, c46, c47, c48, c49, c50, c51, c52, c53, c54, c55, c56, c57, c58, c59, c60, c61, c62, c63, c64, c65, c66, c67, c68, c69, c70, c71, c72, c73, c74, c75, c76, c77, c78, c79, c80, c81, c82, c83, c84, c85, c86, c87, c88, c89, c90, c91, c92, c93, c94, c95, c96, c97, c98, c99, c100, c101, c102, c103, c104, c105, c106, c107, c108, c109, c110, c111, c112, c113, c114, c115, c116, c117, c118, c119, c120, c121, c122, c123, c124, c125, c126, c127, c128, c129, c130, c131, c132, c133, c134, c135, c136, c137, c138, c139, c140, c141, c142, c143, c144, c145, c146, c147, c148, c149, c150, c151, c152, c153, c154, c155, c156, c157, c158, c159, c160, c161, c162, c163, c164, c165, c166, c167, c168, c169, c170, c171, c172, c173, c174, c175, c176, c177, c178, u179, u180, u181, u182, u183, u184, u185, u186, u187, u188, u189, u190, u191, u192, u193, u194, u195, u196, u197, u198, u199, u200, u201, u202, u203, u204, u205, u206, u207, u208, u209, c210, c211, c212, c213, c214, c215, c216, c217, c218, c219, c220, c221, c222, c223, c224, c225, c226, c227, c228, c229, c230, c231, c232, c233, c234, c235, c236, c237, c238, c239, c240, c241, c242, c243, c244, c245, c246, c247, c248, c249, c250, c251, c252, c253, c254, c255, c256, c257, c258, c259, c260, c261, c262, c263, c264, c265, c266, c267, c268, c269, c270, c271, c272, c273, c274, c275, c276, c277, c278, c279, c280, c281, c282, c283, c284, c285, c286, c287, c288, c289, c290, c291, c292, c293, c294, c295, c296, c297, c298, c299, c300, c301, c302, c303, c304, c305, c306, c307, c308], []⟩ wc) :
    Code.wp Try.prog code (Exit.then Kc (bodyPost Try.prog Try.f4 Qp)) ⟨#[.slice (some ⟨kb, ko, none⟩) nk ck, c1, c2, c3, c4, .int .i64 N, c6, .slice (some ⟨Mb, 0, none⟩) N N, c8, c9, c10, c11, c12, c13, c14, .map (some Lb), c16, c17, c18, c19, .map (some w4.heap.size), .int .i64 0, c22, c23, c24, c25, c26, c27, c28, c29, c30, c31, c32, c33, c34, c35, c36, c37, c38, c39, c40, c41, c42, c43, c44, c45, c46, c47, c48, c49, c50, c51, c52, c53, c54, c55, c56, c57, c58, c59, c60, c61, c62, c63, c64, c65, c66, c67, c68, c69, c70, c71, c72, c73, c74, c75, c76, c77, c78, c79, c80, c81, c82, c83, c84, c85, c86, c87, c88, c89, c90, c91, c92, c93, c94, c95, c96, c97, c98, c99, c100, c101, c102, c103, c104, c105, c106, c107, c108, c109, c110, c111, c112, c113, c114, c115, c116, c117, c118, c119, c120, c121, c122, c123, c124, c125, c126, c127, c128, c129, c130, c131, c132, c133, c134, c135, c136, c137, c138, c139, c140, c141, c142, c143, c144, c145, c146, c147, c148, c149, c150, c151, c152, c153, c154, c155, c156, c157, c158, c159, c160, c161, c162, c163, c164, c165, c166, c167, c168, c169, c170, c171, c172, c173, c174, c175, c176, c177, c178, c179, c180, c181, c182, c183, c184, c185, c186, c187, c188, c189, c190, c191, c192, c193, c194, c195, c196, c197, c198, c199, c200, c201, c202, c203, c204, c205, c206, c207, c208, c209, c210, c211, c212, c213, c214, c215, c216, c217, c218, c219, c220, c221, c222, c223, c224, c225, c226, c227, c228, c229, c230, c231, c232, c233, c234, c235, c236, c237, c238, c239, c240, c241, c242, c243, c244, c245, c246, c247, c248, c249, c250, c251, c252, c253, c254, c255, c256, c257, c258, c259, c260, c261, c262, c263, c264, c265, c266, c267, c268, c269, c270, c271, c272, c273, c274, c275, c276, c277, c278, c279, c280, c281, c282, c283, c284, c285, c286, c287, c288, c289, c290, c291, c292, c293, c294, c295, c296, c297, c298, c299, c300, c301, c302, c303, c304, c305, c306, c307, c308], []⟩ w0 := by
  conv at hcode => lhs; whnf
  simp only [Option.some.injEq] at hcode
  subst hcode
  have HK : Hid (∀ (u21 u179 u180 u181 u182 u183 u184 u185 u186 u187 u188 u189 u190 u191 u192 u193 u194 u195 u196 u197 u198 u199 u200 u201 u202 u203 u204 u205 u206 u207 u208 u209 : Value) wc, Inv5 w4 0 (brk K LL N) N wc → Kc ⟨#[.slice (some ⟨kb, ko, none⟩) nk ck, c1, c2, c3, c4, .int .i64 N, c6, .slice (some ⟨Mb, 0, none⟩) N N, c8, c9, c10, c11, c12, c13, c14, .map (some Lb), c16, c17, c18, c19, .map (some w4.heap.size), u21, c22, c23, c24, c25, c26, c27, c28, c29, c30, c31, c32, c33, c34, c35, c36, c37, c38, c39, c40, c41, c42, c43, c44, c45, c46, c47, c48, c49, c50, c51, c52, c53, c54, c55, c56, c57, c58, c59, c60, c61, c62, c63, c64, c65, c66, c67, c68, c69, c70, c71, c72, c73, c74, c75, c76, c77, c78, c79, c80, c81, c82, c83, c84, c85, c86, c87, c88, c89, c90, c91, c92, c93, c94, c95, c96, c97, c98, c99, c100, c101, c102, c103, c104, c105, c106, c107, c108, c109, c110, c111, c112, c113, c114, c115, c116, c117, c118, c119, c120, c121, c122, c123, c124, c125, c126, c127, c128, c129, c130, c131, c132, c133, c134, c135, c136, c137, c138, c139, c140, c141, c142, c143, c144, c145, c146, c147, c148, c149, c150, c151, c152, c153, c154, c155, c156, c157, c158, c159, c160, c161, c162, c163, c164, c165, c166, c167, c168, c169, c170, c171, c172, c173, c174, c175, c176, c177, c178, u179, u180, u181, u182, u183, u184, u185, u186, u187, u188, u189, u190, u191, u192, u193, u194, u195, u196, u197, u198, u199, u200, u201, u202, u203, u204, u205, u206, u207, u208, u209, c210, c211, c212, c213, c214, c215, c216, c217, c218, c219, c220, c221, c222, c223, c224, c225, c226, c227, c228, c229, c230, c231, c232, c233, c234, c235, c236, c237, c238, c239, c240, c241, c242, c243, c244, c245, c246, c247, c248, c249, c250, c251, c252, c253, c254, c255, c256, c257, c258, c259, c260, c261, c262, c263, c264, c265, c266, c267, c268, c269, c270, c271, c272, c273, c274, c275, c276, c277, c278, c279, c280, c281, c282, c283, c284, c285, c286, c287, c288, c289, c290, c291, c292, c293, c294, c295, c296, c297, c298, c299, c300, c301, c302, c303, c304, c305, c306, c307, c308], []⟩ wc) := hK
  have HF : Hid (Fin2 w4 kb ko Mb Ob M N K LL) := hF
  have HG : Hid (MapIs w4 Lb (ixM (lng K LL N)) cL) := hlg
  have HW : Hid (∀ i, i < N → (Lit.int .i64 (K i)).wf = true) := hwf
  have HLn : Hid (∀ j, j < N → (LL j).length ≤ 131072) := hLn
  clear hK hF hwf hLn hlg
  go_wp2_with fail
  go_loopw [21] (fun i wr => ∃ k : Nat, k ≤ N ∧ i = .int .i64 k ∧ Inv5 w4 0 (brk K LL N) k wr) (fun i _ => N - (intOf i).toNat)
  case atStart => exact ⟨0, Nat.zero_le _, rfl, h0⟩
  case round =>
    clear h0
    obtain ⟨k, hk, rfl, hI⟩ := hrel
    by_cases hlt : k < N
    · have hFr := HF.out.later hI.below
      have hkey := hFr.keys k hlt
      obtain ⟨ma, mc, hm1, hm2⟩ := hFr.model k hlt
      have hwk := HW.out k hlt
      by_cases h0 : LL k = []
      · have R : Hid (Inv5 w4 0 (brk K LL N) (k + 1) wr) := inv5_skip hI (brk_same (.inl h0))
        rw [h0] at hm1
        simp only [List.length_nil] at hm1
        clear hI hFr hkey hm2
        go_wp2_with fail
        go_roundw
        case rel => exact ⟨k + 1, by omega, by go_num, R.out⟩
        case measure => simp [intOf]; omega
      · have hpos : 0 < (LL k).length := List.length_pos_iff.2 h0
        have hlm := HLn.out k hlt
        have hls : (lng K LL N (K k)).isSome = true := by rw [lng_some_of]; exact seen_some h0 N hlt
        obtain ⟨j, hj⟩ := Option.isSome_iff_exists.1 hls
        obtain ⟨hjN, -, -, -⟩ := lng_law N (K k) j hj
        have hlk2 : ∀ nq, (Instr.lookup 36 (.map (some Lb)) (.int .i64 (K k)) false).run Try.prog (wr.drewN nq) = .ok (.int .i64 (j : Int)) (wr.drewN nq) := by
          intro nq
          have hlg' : MapIs (wr.drewN nq) Lb (ixM (lng K LL N)) cL := HG.out.kept (hI.below.block Lb HG.out.lt)
          have := hlg'.look Try.underlying36 (zero3 _) hwk
          simpa [ixM, hj] using this
        obtain ⟨mja, mjc, hmj, hmj2⟩ := hFr.model j hjN
        have hljm := HLn.out j hjN
        have hj0 : (0 : Int) ≤ (j : Int) := by omega
        have hj1 : (j : Int) < (N : Int) := by omega
        have hk0 : (0 : Int) ≤ (k : Int) := by omega
        have hk1 : (k : Int) < (N : Int) := by omega
        have hk2 : (k : Int) < (nk : Int) := by omega
        have hgd : (lng K LL N (K k)).getD 0 = j := by rw [hj]; rfl
        cases hag : agr (LL k) (LL j) with
        | true =>
          have HC : Hid (∀ nq, Calls Try.prog 8 #[.slice ma (LL k).length mc, .slice mja (LL j).length mjc] (wr.drewN nq) fun e w' => e = .returned (.bool true) ∧ ∃ n, w' = (wr.drewN nq).drewN n) := by
            intro nq
            have := agree_any (w := wr.drewN nq) hm2 hmj2
            rw [hag] at this
            exact this
          have HR : Hid (∀ nq, Inv5 w4 0 (brk K LL N) (k + 1) (wr.drewN nq)) := fun nq => (inv5_skip hI (brk_same (.inr (by rw [hgd]; exact hag)))).drew nq
          obtain ⟨Kk, hKk⟩ : ∃ x, x = K k := ⟨_, rfl⟩
          obtain ⟨Lk, hLk⟩ : ∃ x, x = (LL k).length := ⟨_, rfl⟩
          obtain ⟨Lj, hLj⟩ : ∃ x, x = (LL j).length := ⟨_, rfl⟩
          rw [← hKk] at hkey hlk2
          rw [← hLk] at hm1 hpos hlm HC
          rw [← hLj] at hmj hljm HC
          clear hI hFr hwk h0 hKk hLk hLj hls hj hag hm2 hmj2 hgd
          go_wp2_with fail
          go_quiet ((go_at_call 8; exact Calls.quiet_of (HC.out _)))
          go_wp2_with fail
          go_roundw
          case rel => exact ⟨k + 1, by omega, by go_num, HR.out nq⟩
          case measure => simp [intOf]; omega
        | false =>
          have HC : Hid (∀ nq, Calls Try.prog 8 #[.slice ma (LL k).length mc, .slice mja (LL j).length mjc] (wr.drewN nq) fun e w' => e = .returned (.bool false) ∧ ∃ n, w' = (wr.drewN nq).drewN n) := by
            intro nq
            have := agree_any (w := wr.drewN nq) hm2 hmj2
            rw [hag] at this
            exact this
          have HR : Hid (∀ nq, ∃ w1, (Instr.mapUpdate 38 (.map (some w4.heap.size)) (.int .i64 (K k)) (.bool true)).run Try.prog (wr.drewN nq) = .ok () w1 ∧ Inv5 w4 0 (brk K LL N) (k + 1) w1) := fun nq => inv5_store (hI.drew nq) (by omega) hwk (brk_new h0 (by rw [hgd]; exact hag))
          obtain ⟨Kk, hKk⟩ : ∃ x, x = K k := ⟨_, rfl⟩
          obtain ⟨Lk, hLk⟩ : ∃ x, x = (LL k).length := ⟨_, rfl⟩
          obtain ⟨Lj, hLj⟩ : ∃ x, x = (LL j).length := ⟨_, rfl⟩
          rw [← hKk] at hkey hlk2 HR
          rw [← hLk] at hm1 hpos hlm HC
          rw [← hLj] at hmj hljm HC
          clear hI hFr hwk h0 hKk hLk hLj hls hj hag hm2 hmj2 hgd
          go_wp2_with fail
          go_quiet ((go_at_call 8; exact Calls.quiet_of (HC.out _)))
          obtain ⟨w1, r1, R0⟩ := HR.out nq
          have R : Hid (Inv5 w4 0 (brk K LL N) (k + 1) w1) := R0
          clear R0
          go_wp2_with fail
          go_roundw
          case rel => exact ⟨k + 1, by omega, by go_num, R.out⟩
          case measure => simp [intOf]; omega
    · go_wp2_with fail
      obtain rfl : k = N := by omega
      exact HK.out _ _ _ _ _ _ _ _ _ _ _ _ _ _ _ _ _ _ _ _ _ _ _ _ _ _ _ _ _ _ _ _ _ hI
end Go.Proofs.Qxb6617284a
