/-
  The script law, its seventh loop (block 12 of function 4): every key that has an entry has matched one of its lists.
-/
import Derived.Test.Qxb6617284aCode
import Derived.Test.Qxb6617284aInv3
namespace Go.Proofs.Qxb6617284a
set_option linter.unusedVariables false
open Go.RowKit Go.Deep Go.Maps

theorem mtc_all {K : Nat → Int} {LL : Nat → List Int} {N : Nat} {k : Int} {f : Nat} (hf : fst' K LL N k = some f) : mtc K LL N N k = true := by
  have hss : (st K LL N k).isSome = true := by rw [st_some_of, hf]; rfl
  obtain ⟨x, hx⟩ := Option.isSome_iff_exists.1 hss
  obtain ⟨t, ht, hk, he⟩ := st_one N k x hx
  exact mtc_law N k t ht hk (by rw [hx, he])

set_option maxRecDepth 100000 in
set_option maxHeartbeats 1600000 in
theorem loop7 (code : Code) (hcode : Try.f4.body.bind (findBlk 12) = some code) {Kc : Act → World → Prop} {Qp : Ending → World → Prop} (kb ko nk ck Mb Ob M N Fb cF Tb cT : Nat) (w6 : World) (K : Nat → Int) (LL : Nat → List Int) {c1 c2 c3 c4 c6 c7 c8 c9 c10 c11 c12 c13 c15 c16 c17 c18 c19 c20 c21 c23 c24 c25 c26 c27 c28 c30 c31 c32 c33 c34 c35 c36 c37 c38 c39 c40 c41 c42 c43 c44 c45 c46 c47 c48 c49 c50 c51 c52 c53 c54 c55 c56 c57 c58 c59 c60 c61 c62 c63 c64 c65 c66 c67 c68 c69 c70 c71 c72 c73 c74 c75 c76 c77 c78 c79 c80 c81 c82 c83 c84 c85 c86 c87 c88 c89 c90 c91 c92 c93 c94 c95 c96 c97 c98 c99 c100 c101 c102 c103 c104 c105 c106 c107 c108 c109 c110 c111 c112 c113 c114 c115 c116 c117 c118 c119 c120 c121 c122 c123 c124 c125 c126 c127 c128 c129 c130 c131 c132 c133 c134 c135 c136 c137 c138 c139 c140 c141 c142 c143 c144 c145 c146 c147 c148 c149 c150 c151 c152 c153 c154 c155 c156 c157 c158 c159 c160 c161 c162 c163 c164 c165 c166 c167 c168 c169 c170 c171 c172 c173 c174 c175 c176 c177 c178 c179 c180 c181 c182 c183 c184 c185 c186 c187 c188 c189 c190 c191 c192 c193 c194 c195 c196 c197 c198 c199 c200 c201 c202 c203 c204 c205 c206 c207 c208 c209 c210 c211 c212 c213 c214 c215 c216 c217 c218 c219 c220 c221 c222 c223 c224 c225 c226 c227 c228 c229 c230 c231 c232 c233 c234 c235 c236 c237 c238 c239 c240 c241 c242 c243 c244 c245 c246 c247 c248 c249 c250 c251 c252 c253 c254 c255 c256 c257 c258 c259 c260 c261 c262 c263 c264 c265 c266 c267 c268 c269 c270 c271 c272 c273 c274 c275 c276 c277 c278 c279 c280 c281 c282 c283 c284 c285 c286 c287 c288 c289 c290 c291 c292 c293 c294 c295 c296 c297 c298 c299 c300 c301 c302 c303 c304 c305 c306 c307 c308 : Value}
    (hNk : N ≤ nk) (hN : N ≤ 65536) (hnk : nk ≤ 9223372036854775807) (hF : Fin2 w6 kb ko Mb Ob M N K LL) (hfm : MapIs w6 Fb (ixM (fst' K LL N)) cF) (htm : MapIs w6 Tb (boM (mtc K LL N N)) cT) (hwf : ∀ i, i < N → (Lit.int .i64 (K i)).wf = true)
    (hK : ∀ (u4 u29 u30 u31 u280 u281 u282 u283 u284 u285 u286 u287 u288 u289 u290 u291 u292 u293 u294 u295 u296 u297 u298 u299 u300 u301 u302 u303 : Value), Kc ⟨#[.slice (some ⟨kb, ko, none⟩) nk ck, c1, c2, c3, u4, .int .i64 N, c6, c7, c8, c9, c10, c11, c12, c13, .map (some Fb), c15, c16, c17, c18, c19, c20, c21, .map (some Tb), c23, c24, c25, c26, c27, c28, u29, u30, u31, c32, c33, c34, c35, c36, c37, c38, c39, c40, c41, c42, c43, c44, c45, c46, c47, c48, c49, c50, c51, c52, c53, c54, c55, c56, c57, c58, c59, c60, c61, c62, c63, c64, c65, c66, c67, c68, c69, c70, c71, c72, c73, c74, c75, c76, c77, c78, c79, c80, c81, c82, c83, c84, c85, c86, c87, c88, c89, c90, c91, c92, c93, c94, c95, c96, c97, c98, c99, c100, c101, c102, c103, c104, c105, c106, c107, c108, c109, c110, c111, c112, c113, c114, c115, c116, c117, c118, c119, c120, c121, c122, c123, c124, c125, c126, c127, c128, c129, c130, c131, c132, c133, c134, c135, c136, c137, c138, c139, c140, c141, c142, c143, c144, c145, c146, c147, c148, c149, c150, c151, c152, c153, c154, c155, c156, c157, c158, c159, c160, c161, c162, c163, c164, c165, c166, c167, c168, c169, c170, c171, c172, c173, c174, c175, c176, c177, c178, c179, c180, c181, c182, c183, c184, c185, c186, c187, c188, c189, c190, c191, c192, c193, c194, c195, c196, c197, c198, c199, c200, c201, c202, c203, c204, c205, c206, c207, c208, c209, c210, c211, c212, c213, c214, c215, c216, c217, c218, c219, c220, c221, c222, c223, c224, c225, c226, c227, c228, c229, c230, c231, c232, c233, c234, c235, c236, c237, c238, c239, c240, c241, c242, c243, c244, c245, c246, c247, c248, c249, c250, c251, c252, c253, c254, c255, c256, c257, c258, c259, c260, c261, c262, c263, c264, c265, c266, c267, c268, c269, c270, c271, c272, c273, c274, c275, c276, c277, c278, c279, u280, u281, u282, u283, u284, u285, u286, u287, u288, u289, u290, u291, u292, u293, u294, u295, u296, u297, u298, u299, u300, u301, u302, u303, c304, c305, c306, c307, c308], []⟩ w6) :
    Code.wp Try.prog code (Exit.then Kc (bodyPost Try.prog Try.f4 Qp)) ⟨#[.slice (some ⟨kb, ko, none⟩) nk ck, c1, c2, c3, c4, .int .i64 N, c6, c7, c8, c9, c10, c11, c12, c13, .map (some Fb), c15, c16, c17, c18, c19, c20, c21, .map (some Tb), c23, c24, c25, c26, c27, c28, .int .i64 0, c30, c31, c32, c33, c34, c35, c36, c37, c38, c39, c40, c41, c42, c43, c44, c45, c46, c47, c48, c49, c50, c51, c52, c53, c54, c55, c56, c57, c58, c59, c60, c61, c62, c63, c64, c65, c66, c67, c68, c69, c70, c71, c72, c73, c74, c75, c76, c77, c78, c79, c80, c81, c82, c83, c84, c85, c86, c87, c88, c89, c90, c91, c92, c93, c94, c95, c96, c97, c98, c99, c100, c101, c102, c103, c104, c105, c106, c107, c108, c109, c110, c111, c112, c113, c114, c115, c116, c117, c118, c119, c120, c121, c122, c123, c124, c125, c126, c127, c128, c129, c130, c131, c132, c133, c134, c135, c136, c137, c138, c139, c140, c141, c142, c143, c144, c145, c146, c147, c148, c149, c150, c151, c152, c153, c154, c155, c156, c157, c158, c159, c160, c161, c162, c163, c164, c165, c166, c167, c168, c169, c170, c171, c172, c173, c174, c175, c176, c177, c178, c179, c180, c181, c182, c183, c184, c185, c186, c187, c188, c189, c190, c191, c192, c193, c194, c195, c196, c197, c198, c199, c200, c201, c202, c203, c204, c205, c206, c207, c208, c209, c210, c211, c212, c213, c214, c215, c216, c217, c218, c219, c220, c221, c222, c223, c224, c225, c226, c227, c228, c229, c230, c231, c232, c233, c234, c235, c236, c237, c238, c239, c240, c241, c242, c243, c244, c245, c246, c247, c248, c249, c250, c251, c252, c253, c254, c255, c256, c257, c258, c259, c260, c261, c262, c263, c264, c265, c266, c267, c268, c269, c270, c271, c272, c273, c274, c275, c276, c277, c278, c279, c280, c281, c282, c283, c284, c285, c286, c287, c288, c289, c290, c291, c292, c293, c294, c295, c296, c297, c298, c299, c300, c301, c302, c303, c304, c305, c306, c307, c308], []⟩ w6 := by
  conv at hcode => lhs; whnf
  simp only [Option.some.injEq] at hcode
  subst hcode
  have HK : Hid (∀ (u4 u29 u30 u31 u280 u281 u282 u283 u284 u285 u286 u287 u288 u289 u290 u291 u292 u293 u294 u295 u296 u297 u298 u299 u300 u301 u302 u303 : Value), Kc ⟨#[.slice (some ⟨kb, ko, none⟩) nk ck, c1, c2, c3, u4, .int .i64 N, c6, c7, c8, c9, c10, c11, c12, c13, .map (some Fb), c15, c16, c17, c18, c19, c20, c21, .map (some Tb), c23, c24, c25, c26, c27, c28, u29, u30, u31, c32, c33, c34, c35, c36, c37, c38, c39, c40, c41, c42, c43, c44, c45, c46, c47, c48, c49, c50, c51, c52, c53, c54, c55, c56, c57, c58, c59, c60, c61, c62, c63, c64, c65, c66, c67, c68, c69, c70, c71, c72, c73, c74, c75, c76, c77, c78, c79, c80, c81, c82, c83, c84, c85, c86, c87, c88, c89, c90, c91, c92, c93, c94, c95, c96, c97, c98, c99, c100, c101, c102, c103, c104, c105, c106, c107, c108, c109, c110, c111, c112, c113, c114, c115, c116, c117, c118, c119, c120, c121, c122, c123, c124, c125, c126, c127, c128, c129, c130, c131, c132, c133, c134, c135, c136, c137, c138, c139, c140, c141, c142, c143, c144, c145, c146, c147, c148, c149, c150, c151, c152, c153, c154, c155, c156, c157, c158, c159, c160, c161, c162, c163, c164, c165, c166, c167, c168, c169, c170, c171, c172, c173, c174, c175, c176, c177, c178, c179, c180, c181, c182, c183, c184, c185, c186, c187, c188, c189, c190, c191, c192, c193, c194, c195, c196, c197, c198, c199, c200, c201, c202, c203, c204, c205, c206, c207, c208, c209, c210, c211, c212, c213, c214, c215, c216, c217, c218, c219, c220, c221, c222, c223, c224, c225, c226, c227, c228, c229, c230, c231, c232, c233, c234, c235, c236, c237, c238, c239, c240, c241, c242, c243, c244, c245, c246, c247, c248, c249, c250, c251, c252, c253, c254, c255, c256, c257, c258, c259, c260, c261, c262, c263, c264, c265, c266, c267, c268, c269, c270, c271, c272, c273, c274, c275, c276, c277, c278, c279, u280, u281, u282, u283, u284, u285, u286, u287, u288, u289, u290, u291, u292, u293, u294, u295, u296, u297, u298, u299, u300, u301, u302, u303, c304, c305, c306, c307, c308], []⟩ w6) := hK
  have HF : Hid (Fin2 w6 kb ko Mb Ob M N K LL) := hF
  have HFm : Hid (MapIs w6 Fb (ixM (fst' K LL N)) cF) := hfm
  have HT : Hid (MapIs w6 Tb (boM (mtc K LL N N)) cT) := htm
  have HW : Hid (∀ i, i < N → (Lit.int .i64 (K i)).wf = true) := hwf
  clear hK hF hwf hfm htm
  go_wp2_with fail
  go_loop [29] (fun i => ∃ k : Nat, k ≤ N ∧ i = .int .i64 k) (fun i => N - (intOf i).toNat)
  case atStart => exact ⟨0, Nat.zero_le _, rfl⟩
  case round =>
    obtain ⟨k, hk, rfl⟩ := hrel
    by_cases hlt : k < N
    · have hkey := HF.out.keys k hlt
      have hwk := HW.out k hlt
      cases hf : fst' K LL N (K k) with
      | none =>
        have hlkf : (Instr.lookup 36 (.map (some Fb)) (.int .i64 (K k)) true).run Try.prog w6 = .ok (.tuple #[.int .i64 0, .bool false]) w6 := by
          have := HFm.out.look_ok Try.underlying36 (zero3 w6) hwk
          simpa [ixM, hf] using this
        obtain ⟨Kk, hKk⟩ : ∃ x, x = K k := ⟨_, rfl⟩
        rw [← hKk] at hkey hlkf
        clear hwk hf hKk
        go_wp2_with fail
        go_round
        case rel => exact ⟨k + 1, by omega, by go_num⟩
        case measure => simp [intOf]; omega
      | some f =>
        have hlkf : (Instr.lookup 36 (.map (some Fb)) (.int .i64 (K k)) true).run Try.prog w6 = .ok (.tuple #[.int .i64 (f : Int), .bool true]) w6 := by
          have := HFm.out.look_ok Try.underlying36 (zero3 w6) hwk
          simpa [ixM, hf] using this
        have hlkt : (Instr.lookup 38 (.map (some Tb)) (.int .i64 (K k)) false).run Try.prog w6 = .ok (.bool true) w6 := by
          have := HT.out.look Try.underlying38 (zero4 w6) hwk
          rw [boM_getD, mtc_all hf] at this
          exact this
        obtain ⟨Kk, hKk⟩ : ∃ x, x = K k := ⟨_, rfl⟩
        rw [← hKk] at hkey hlkf hlkt
        clear hwk hf hKk
        go_wp2_with fail
        go_round
        case rel => exact ⟨k + 1, by omega, by go_num⟩
        case measure => simp [intOf]; omega
    · go_wp2_with fail
      exact HK.out _ _ _ _ _ _ _ _ _ _ _ _ _ _ _ _ _ _ _ _ _ _ _ _ _ _ _ _
end Go.Proofs.Qxb6617284a
