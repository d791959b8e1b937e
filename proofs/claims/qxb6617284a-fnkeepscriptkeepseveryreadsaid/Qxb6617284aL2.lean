/-
  The script law, its second loop (block 2 of function 4): the keeps.
-/
import Derived.Test.Qxb6617284aCode
import Derived.Deep.RegionWith
namespace Go.Proofs.Qxb6617284a
set_option linter.unusedVariables false
open Go.RowKit Go.Deep Go.Maps

set_option maxRecDepth 100000 in
set_option maxHeartbeats 800000 in
theorem loop2 (code : Code) (hcode : Try.f4.body.bind (findBlk 2) = some code) {Kc : Act → World → Prop} {Qp : Ending → World → Prop} (kb ko nk ck Gb Mb N : Nat) (w1 w0 : World) (K : Nat → Int) (LL : Nat → List Int) {c1 c2 c3 c4 c7 c8 c9 c13 c14 c15 c16 c17 c18 c19 c20 c21 c22 c23 c24 c25 c26 c27 c28 c29 c30 c31 c32 c33 c34 c35 c36 c37 c38 c39 c40 c41 c42 c43 c44 c45 c46 c47 c48 c49 c50 c51 c52 c53 c54 c55 c56 c57 c58 c59 c60 c61 c62 c63 c64 c65 c66 c67 c68 c69 c70 c71 c72 c73 c74 c75 c76 c77 c78 c79 c80 c81 c82 c83 c84 c85 c86 c87 c88 c89 c90 c91 c92 c93 c94 c95 c96 c97 c98 c99 c100 c101 c102 c103 c104 c105 c106 c107 c108 c109 c110 c111 c112 c113 c114 c115 c116 c117 c118 c119 c120 c121 c122 c123 c124 c125 c126 c127 c128 c129 c130 c131 c132 c133 c134 c135 c136 c137 c138 c139 c140 c141 c142 c143 c144 c145 c146 c147 c148 c149 c150 c151 c152 c153 c154 c155 c156 c157 c158 c159 c160 c161 c162 c163 c164 c165 c166 c167 c168 c169 c170 c171 c172 c173 c174 c175 c176 c177 c178 c179 c180 c181 c182 c183 c184 c185 c186 c187 c188 c189 c190 c191 c192 c193 c194 c195 c196 c197 c198 c199 c200 c201 c202 c203 c204 c205 c206 c207 c208 c209 c210 c211 c212 c213 c214 c215 c216 c217 c218 c219 c220 c221 c222 c223 c224 c225 c226 c227 c228 c229 c230 c231 c232 c233 c234 c235 c236 c237 c238 c239 c240 c241 c242 c243 c244 c245 c246 c247 c248 c249 c250 c251 c252 c253 c254 c255 c256 c257 c258 c259 c260 c261 c262 c263 c264 c265 c266 c267 c268 c269 c270 c271 c272 c273 c274 c275 c276 c277 c278 c279 c280 c281 c282 c283 c284 c285 c286 c287 c288 c289 c290 c291 c292 c293 c294 c295 c296 c297 c298 c299 c300 c301 c302 c303 c304 c305 c306 c307 c308 : Value}
    (hNk : N ≤ nk) (hN : N ≤ 65536) (hnk : nk ≤ 9223372036854775807) (hst : Stat w1 kb ko Gb Mb N K LL) (hwf : ∀ i, i < N → (Lit.int .i64 (K i)).wf = true) (hLn : ∀ j, j < N → (LL j).length ≤ 131072)
    (h0 : Inv2 w1 N K LL 0 w0) (hK : ∀ (u12 u91 u92 u93 u94 u95 u96 u97 u98 u99 u100 u101 u102 u103 u104 u105 u106 u107 u108 : Value) wc, Inv2 w1 N K LL N wc → Kc ⟨#[.slice (some ⟨kb, ko, none⟩) nk ck, c1, c2, c3, c4, .int .i64 N, .slice (some ⟨Gb, 0, none⟩) N N, c7, c8, c9, .pointer (some ⟨w1.heap.size + 1, 0, none⟩), .slice (some ⟨w1.heap.size + 2, 0, none⟩) N N, u12, c13, c14, c15, c16, c17, c18, c19, c20, c21, c22, c23, c24, c25, c26, c27, c28, c29, c30, c31, c32, c33, c34, c35, c36, c37, c38, c39, c40, c41, c42, c43, c44, c45, c46, c47, c48, c49, c50, c51, c52, c53, c54, c55, c56, c57, c58, c59, c60, c61, c62, c63, c64, c65, c66, c67, c68, c69, c70, c71, c72, c73, c74, c75, c76, c77, c78, c79, c80, c81, c82, c83, c84, c85, c86, c87, c88, c89, c90, u91, u92, u93, u94, u95, u96, u97, u98, u99, u100, u101, u102, u103, u104, u105, u106, u107, u108, c109, c110, c111, c112, c113, c114, c115, c116, c117, c118, c119, c120, c121, c122, c123, c124, c125, c126, c127, c128, c129, c130, c131, c132, c133, c134, c135, c136, c137, c138, c139, c140, c141, c142, c143, c144, c145, c146, c147, c148, c149, c150, c151, c152, c153, c154, c155, c156, c157, c158, c159, c160, c161, c162, c163, c164, c165, c166, c167, c168, c169, c170, c171, c172, c173, c174, c175, c176, c177, c178, c179, c180, c181, c182, c183, c184, c185, c186, c187, c188, c189, c190, c191, c192, c193, c194, c195, c196, c197, c198, c199, c200, c201, c202, c203, c204, c205, c206, c207, c208, c209, c210, c211, c212, c213, c214, c215, c216, c217, c218, c219, c220, c221, c222, c223, c224, c225, c226, c227, c228, c229, c230, c231, c232, c233, c234, c235, c236, c237, c238, c239, c240, c241, c242, c243, c244, c245, c246, c247, c248, c249, c250, c251, c252, c253, c254, c255, c256, c257, c258, c259, c260, c261, c262, c263, c264, c265, c266, c267, c268, c269, c270, c271, c272, c273, c274, c275, c276, c277, c278, c279, c280, c281, c282, c283, c284, c285, c286, c287, c288, c289, c290, c291, c292, c293, c294, c295, c296, c297, c298, c299, c300, c301, c302, c303, c304, c305, c306, c307, c308], []⟩ wc) :
    Code.wp Try.prog code (Exit.then Kc (bodyPost Try.prog Try.f4 Qp)) ⟨#[.slice (some ⟨kb, ko, none⟩) nk ck, c1, c2, c3, c4, .int .i64 N, .slice (some ⟨Gb, 0, none⟩) N N, c7, c8, c9, .pointer (some ⟨w1.heap.size + 1, 0, none⟩), .slice (some ⟨w1.heap.size + 2, 0, none⟩) N N, .int .i64 0, c13, c14, c15, c16, c17, c18, c19, c20, c21, c22, c23, c24, c25, c26, c27, c28, c29, c30, c31, c32, c33, c34, c35, c36, c37, c38, c39, c40, c41, c42, c43, c44, c45, c46, c47, c48, c49, c50, c51, c52, c53, c54, c55, c56, c57, c58, c59, c60, c61, c62, c63, c64, c65, c66, c67, c68, c69, c70, c71, c72, c73, c74, c75, c76, c77, c78, c79, c80, c81, c82, c83, c84, c85, c86, c87, c88, c89, c90, c91, c92, c93, c94, c95, c96, c97, c98, c99, c100, c101, c102, c103, c104, c105, c106, c107, c108, c109, c110, c111, c112, c113, c114, c115, c116, c117, c118, c119, c120, c121, c122, c123, c124, c125, c126, c127, c128, c129, c130, c131, c132, c133, c134, c135, c136, c137, c138, c139, c140, c141, c142, c143, c144, c145, c146, c147, c148, c149, c150, c151, c152, c153, c154, c155, c156, c157, c158, c159, c160, c161, c162, c163, c164, c165, c166, c167, c168, c169, c170, c171, c172, c173, c174, c175, c176, c177, c178, c179, c180, c181, c182, c183, c184, c185, c186, c187, c188, c189, c190, c191, c192, c193, c194, c195, c196, c197, c198, c199, c200, c201, c202, c203, c204, c205, c206, c207, c208, c209, c210, c211, c212, c213, c214, c215, c216, c217, c218, c219, c220, c221, c222, c223, c224, c225, c226, c227, c228, c229, c230, c231, c232, c233, c234, c235, c236, c237, c238, c239, c240, c241, c242, c243, c244, c245, c246, c247, c248, c249, c250, c251, c252, c253, c254, c255, c256, c257, c258, c259, c260, c261, c262, c263, c264, c265, c266, c267, c268, c269, c270, c271, c272, c273, c274, c275, c276, c277, c278, c279, c280, c281, c282, c283, c284, c285, c286, c287, c288, c289, c290, c291, c292, c293, c294, c295, c296, c297, c298, c299, c300, c301, c302, c303, c304, c305, c306, c307, c308], []⟩ w0 := by
  conv at hcode => lhs; whnf
  simp only [Option.some.injEq] at hcode
  subst hcode
  have HK : Hid (∀ (u12 u91 u92 u93 u94 u95 u96 u97 u98 u99 u100 u101 u102 u103 u104 u105 u106 u107 u108 : Value) wc, Inv2 w1 N K LL N wc → Kc ⟨#[.slice (some ⟨kb, ko, none⟩) nk ck, c1, c2, c3, c4, .int .i64 N, .slice (some ⟨Gb, 0, none⟩) N N, c7, c8, c9, .pointer (some ⟨w1.heap.size + 1, 0, none⟩), .slice (some ⟨w1.heap.size + 2, 0, none⟩) N N, u12, c13, c14, c15, c16, c17, c18, c19, c20, c21, c22, c23, c24, c25, c26, c27, c28, c29, c30, c31, c32, c33, c34, c35, c36, c37, c38, c39, c40, c41, c42, c43, c44, c45, c46, c47, c48, c49, c50, c51, c52, c53, c54, c55, c56, c57, c58, c59, c60, c61, c62, c63, c64, c65, c66, c67, c68, c69, c70, c71, c72, c73, c74, c75, c76, c77, c78, c79, c80, c81, c82, c83, c84, c85, c86, c87, c88, c89, c90, u91, u92, u93, u94, u95, u96, u97, u98, u99, u100, u101, u102, u103, u104, u105, u106, u107, u108, c109, c110, c111, c112, c113, c114, c115, c116, c117, c118, c119, c120, c121, c122, c123, c124, c125, c126, c127, c128, c129, c130, c131, c132, c133, c134, c135, c136, c137, c138, c139, c140, c141, c142, c143, c144, c145, c146, c147, c148, c149, c150, c151, c152, c153, c154, c155, c156, c157, c158, c159, c160, c161, c162, c163, c164, c165, c166, c167, c168, c169, c170, c171, c172, c173, c174, c175, c176, c177, c178, c179, c180, c181, c182, c183, c184, c185, c186, c187, c188, c189, c190, c191, c192, c193, c194, c195, c196, c197, c198, c199, c200, c201, c202, c203, c204, c205, c206, c207, c208, c209, c210, c211, c212, c213, c214, c215, c216, c217, c218, c219, c220, c221, c222, c223, c224, c225, c226, c227, c228, c229, c230, c231, c232, c233, c234, c235, c236, c237, c238, c239, c240, c241, c242, c243, c244, c245, c246, c247, c248, c249, c250, c251, c252, c253, c254, c255, c256, c257, c258, c259, c260, c261, c262, c263, c264, c265, c266, c267, c268, c269, c270, c271, c272, c273, c274, c275, c276, c277, c278, c279, c280, c281, c282, c283, c284, c285, c286, c287, c288, c289, c290, c291, c292, c293, c294, c295, c296, c297, c298, c299, c300, c301, c302, c303, c304, c305, c306, c307, c308], []⟩ wc) := hK
  have HS : Hid (Stat w1 kb ko Gb Mb N K LL) := hst
  have HW : Hid (∀ i, i < N → (Lit.int .i64 (K i)).wf = true) := hwf
  have HLn : Hid (∀ j, j < N → (LL j).length ≤ 131072) := hLn
  clear hK hst hwf hLn
  go_wp2_with fail
  go_loopw [12] (fun i wr => ∃ k : Nat, k ≤ N ∧ i = .int .i64 k ∧ Inv2 w1 N K LL k wr) (fun i _ => N - (intOf i).toNat)
  case atStart => exact ⟨0, Nat.zero_le _, rfl, h0⟩
  case round =>
    clear h0
    obtain ⟨k, hk, rfl, hI⟩ := hrel
    by_cases hlt : k < N
    · have hS := HS.out.later hI.below
      have hkey := hS.keys k hlt
      obtain ⟨gv, hgv, hgr⟩ := hS.given k hlt
      obtain ⟨ga, gc, rfl⟩ := rd_shape hgr
      obtain ⟨v0, hv0, hf0⟩ := hI.got k hlt
      have HC : Hid (Calls Try.prog 10 #[.pointer (some ⟨w1.heap.size + 1, 0, none⟩), .int .i64 (K k), .slice ga (LL k).length gc] wr.drew fun e w' => ∃ g c, e = .returned (.slice (some ⟨g, 0, none⟩) (LL k).length c) ∧
        (∃ v, w'.cell? ⟨w1.heap.size + 2, k, none⟩ = some v) ∧ w'.frozen? ⟨w1.heap.size + 2, k, none⟩ = false ∧ Inv2 w1 N K LL (k + 1) (w'.setCell ⟨w1.heap.size + 2, k, none⟩ (.slice (some ⟨g, 0, none⟩) (LL k).length c))) := round2 hI hlt hN (HW.out k hlt) HLn.out hgr 1
      obtain ⟨Kk, hKk⟩ : ∃ x, x = K k := ⟨_, rfl⟩
      obtain ⟨Lk, hLk⟩ : ∃ x, x = (LL k).length := ⟨_, rfl⟩
      rw [← hKk] at hkey HC
      rw [← hLk] at hgv HC
      have hi0 : (0 : Int) ≤ (k : Int) := by omega
      have hi1 : (k : Int) < (nk : Int) := by omega
      have hi2 : (k : Int) < (N : Int) := by omega
      clear hI hS hgr hKk hLk
      go_wp2_with fail
      go_region_with (go_at_call 10; refine HC.out.mono ?_; rintro e w2 ⟨g, c, rfl, ⟨v1, hv1⟩, hf1, R⟩; have R2 : Hid (Inv2 w1 N K LL (k + 1) (w2.setCell ⟨w1.heap.size + 2, k, none⟩ (.slice (some ⟨g, 0, none⟩) Lk c))) := R; clear R)
      all_goals
        go_wp2_with fail
        go_roundw
        case rel => exact ⟨k + 1, by omega, by go_num, R2.out⟩
        case measure => simp [intOf]; omega
    · go_wp2_with fail
      obtain rfl : k = N := by omega
      exact HK.out _ _ _ _ _ _ _ _ _ _ _ _ _ _ _ _ _ _ _ _ hI
end Go.Proofs.Qxb6617284a
