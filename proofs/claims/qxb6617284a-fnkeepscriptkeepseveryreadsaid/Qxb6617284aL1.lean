/-
  The script law, its first loop (block 0 of function 4): each list cloned twice.
-/
import Derived.Test.Qxb6617284aCode
namespace Go.Proofs.Qxb6617284a
set_option linter.unusedVariables false
open Go.RowKit Go.Deep Go.Maps

set_option maxRecDepth 100000 in
set_option maxHeartbeats 800000 in
theorem loop1 (code : Code) (hcode : Try.f4.body.bind (findBlk 0) = some code) {Kc : Act → World → Prop} {Qp : Ending → World → Prop} (lb lo nl cl N : Nat) (w w0 : World) (LL : Nat → List Int) (A : Nat → Option Addr) (C : Nat → Nat) {c0 c2 c3 c4 c9 c10 c11 c12 c13 c14 c15 c16 c17 c18 c19 c20 c21 c22 c23 c24 c25 c26 c27 c28 c29 c30 c31 c32 c33 c34 c35 c36 c37 c38 c39 c40 c41 c42 c43 c44 c45 c46 c47 c48 c49 c50 c51 c52 c53 c54 c55 c56 c57 c58 c59 c60 c61 c62 c63 c64 c65 c66 c67 c68 c69 c70 c71 c72 c73 c74 c75 c76 c77 c78 c79 c80 c81 c82 c83 c84 c85 c86 c87 c88 c89 c90 c91 c92 c93 c94 c95 c96 c97 c98 c99 c100 c101 c102 c103 c104 c105 c106 c107 c108 c109 c110 c111 c112 c113 c114 c115 c116 c117 c118 c119 c120 c121 c122 c123 c124 c125 c126 c127 c128 c129 c130 c131 c132 c133 c134 c135 c136 c137 c138 c139 c140 c141 c142 c143 c144 c145 c146 c147 c148 c149 c150 c151 c152 c153 c154 c155 c156 c157 c158 c159 c160 c161 c162 c163 c164 c165 c166 c167 c168 c169 c170 c171 c172 c173 c174 c175 c176 c177 c178 c179 c180 c181 c182 c183 c184 c185 c186 c187 c188 c189 c190 c191 c192 c193 c194 c195 c196 c197 c198 c199 c200 c201 c202 c203 c204 c205 c206 c207 c208 c209 c210 c211 c212 c213 c214 c215 c216 c217 c218 c219 c220 c221 c222 c223 c224 c225 c226 c227 c228 c229 c230 c231 c232 c233 c234 c235 c236 c237 c238 c239 c240 c241 c242 c243 c244 c245 c246 c247 c248 c249 c250 c251 c252 c253 c254 c255 c256 c257 c258 c259 c260 c261 c262 c263 c264 c265 c266 c267 c268 c269 c270 c271 c272 c273 c274 c275 c276 c277 c278 c279 c280 c281 c282 c283 c284 c285 c286 c287 c288 c289 c290 c291 c292 c293 c294 c295 c296 c297 c298 c299 c300 c301 c302 c303 c304 c305 c306 c307 c308 : Value}
    (hNl : N ≤ nl) (hN : N ≤ 65536) (hnl : nl ≤ 9223372036854775807) (hlists : ∀ i, i < N → w.cell? ⟨lb, lo + i, none⟩ = some (.slice (A i) (LL i).length (C i))) (hrd : ∀ i, i < N → Rd w (.slice (A i) (LL i).length (C i)) (LL i)) (hLn : ∀ j, j < N → (LL j).length ≤ 131072)
    (h0 : Inv1 w N LL 0 w0) (hK : ∀ (u8 u65 u66 u67 u68 u69 u70 u71 u72 u73 u74 u75 u76 u77 u78 u79 u80 u81 u82 u83 u84 u85 : Value) wc, Inv1 w N LL N wc → Kc ⟨#[c0, .slice (some ⟨lb, lo, none⟩) nl cl, c2, c3, c4, .int .i64 N, .slice (some ⟨w.heap.size, 0, none⟩) N N, .slice (some ⟨w.heap.size + 1, 0, none⟩) N N, u8, c9, c10, c11, c12, c13, c14, c15, c16, c17, c18, c19, c20, c21, c22, c23, c24, c25, c26, c27, c28, c29, c30, c31, c32, c33, c34, c35, c36, c37, c38, c39, c40, c41, c42, c43, c44, c45, c46, c47, c48, c49, c50, c51, c52, c53, c54, c55, c56, c57, c58, c59, c60, c61, c62, c63, c64, u65, u66, u67, u68, u69, u70, u71, u72, u73, u74, u75, u76, u77, u78, u79, u80, u81, u82, u83, u84, u85, c86, c87, c88, c89, c90, c91, c92, c93, c94, c95, c96, c97, c98, c99, c100, c101, c102, c103, c104, c105, c106, c107, c108, c109, c110, c111, c112, c113, c114, c115, c116, c117, c118, c119, c120, c121, c122, c123, c124, c125, c126, c127, c128, c129, c130, c131, c132, c133, c134, c135, c136, c137, c138, c139, c140, c141, c142, c143, c144, c145, c146, c147, c148, c149, c150, c151, c152, c153, c154, c155, c156, c157, c158, c159, c160, c161, c162, c163, c164, c165, c166, c167, c168, c169, c170, c171, c172, c173, c174, c175, c176, c177, c178, c179, c180, c181, c182, c183, c184, c185, c186, c187, c188, c189, c190, c191, c192, c193, c194, c195, c196, c197, c198, c199, c200, c201, c202, c203, c204, c205, c206, c207, c208, c209, c210, c211, c212, c213, c214, c215, c216, c217, c218, c219, c220, c221, c222, c223, c224, c225, c226, c227, c228, c229, c230, c231, c232, c233, c234, c235, c236, c237, c238, c239, c240, c241, c242, c243, c244, c245, c246, c247, c248, c249, c250, c251, c252, c253, c254, c255, c256, c257, c258, c259, c260, c261, c262, c263, c264, c265, c266, c267, c268, c269, c270, c271, c272, c273, c274, c275, c276, c277, c278, c279, c280, c281, c282, c283, c284, c285, c286, c287, c288, c289, c290, c291, c292, c293, c294, c295, c296, c297, c298, c299, c300, c301, c302, c303, c304, c305, c306, c307, c308], []⟩ wc) :
    Code.wp Try.prog code (Exit.then Kc (bodyPost Try.prog Try.f4 Qp)) ⟨#[c0, .slice (some ⟨lb, lo, none⟩) nl cl, c2, c3, c4, .int .i64 N, .slice (some ⟨w.heap.size, 0, none⟩) N N, .slice (some ⟨w.heap.size + 1, 0, none⟩) N N, .int .i64 0, c9, c10, c11, c12, c13, c14, c15, c16, c17, c18, c19, c20, c21, c22, c23, c24, c25, c26, c27, c28, c29, c30, c31, c32, c33, c34, c35, c36, c37, c38, c39, c40, c41, c42, c43, c44, c45, c46, c47, c48, c49, c50, c51, c52, c53, c54, c55, c56, c57, c58, c59, c60, c61, c62, c63, c64, c65, c66, c67, c68, c69, c70, c71, c72, c73, c74, c75, c76, c77, c78, c79, c80, c81, c82, c83, c84, c85, c86, c87, c88, c89, c90, c91, c92, c93, c94, c95, c96, c97, c98, c99, c100, c101, c102, c103, c104, c105, c106, c107, c108, c109, c110, c111, c112, c113, c114, c115, c116, c117, c118, c119, c120, c121, c122, c123, c124, c125, c126, c127, c128, c129, c130, c131, c132, c133, c134, c135, c136, c137, c138, c139, c140, c141, c142, c143, c144, c145, c146, c147, c148, c149, c150, c151, c152, c153, c154, c155, c156, c157, c158, c159, c160, c161, c162, c163, c164, c165, c166, c167, c168, c169, c170, c171, c172, c173, c174, c175, c176, c177, c178, c179, c180, c181, c182, c183, c184, c185, c186, c187, c188, c189, c190, c191, c192, c193, c194, c195, c196, c197, c198, c199, c200, c201, c202, c203, c204, c205, c206, c207, c208, c209, c210, c211, c212, c213, c214, c215, c216, c217, c218, c219, c220, c221, c222, c223, c224, c225, c226, c227, c228, c229, c230, c231, c232, c233, c234, c235, c236, c237, c238, c239, c240, c241, c242, c243, c244, c245, c246, c247, c248, c249, c250, c251, c252, c253, c254, c255, c256, c257, c258, c259, c260, c261, c262, c263, c264, c265, c266, c267, c268, c269, c270, c271, c272, c273, c274, c275, c276, c277, c278, c279, c280, c281, c282, c283, c284, c285, c286, c287, c288, c289, c290, c291, c292, c293, c294, c295, c296, c297, c298, c299, c300, c301, c302, c303, c304, c305, c306, c307, c308], []⟩ w0 := by
  conv at hcode => lhs; whnf
  simp only [Option.some.injEq] at hcode
  subst hcode
  have HK : Hid (∀ (u8 u65 u66 u67 u68 u69 u70 u71 u72 u73 u74 u75 u76 u77 u78 u79 u80 u81 u82 u83 u84 u85 : Value) wc, Inv1 w N LL N wc → Kc ⟨#[c0, .slice (some ⟨lb, lo, none⟩) nl cl, c2, c3, c4, .int .i64 N, .slice (some ⟨w.heap.size, 0, none⟩) N N, .slice (some ⟨w.heap.size + 1, 0, none⟩) N N, u8, c9, c10, c11, c12, c13, c14, c15, c16, c17, c18, c19, c20, c21, c22, c23, c24, c25, c26, c27, c28, c29, c30, c31, c32, c33, c34, c35, c36, c37, c38, c39, c40, c41, c42, c43, c44, c45, c46, c47, c48, c49, c50, c51, c52, c53, c54, c55, c56, c57, c58, c59, c60, c61, c62, c63, c64, u65, u66, u67, u68, u69, u70, u71, u72, u73, u74, u75, u76, u77, u78, u79, u80, u81, u82, u83, u84, u85, c86, c87, c88, c89, c90, c91, c92, c93, c94, c95, c96, c97, c98, c99, c100, c101, c102, c103, c104, c105, c106, c107, c108, c109, c110, c111, c112, c113, c114, c115, c116, c117, c118, c119, c120, c121, c122, c123, c124, c125, c126, c127, c128, c129, c130, c131, c132, c133, c134, c135, c136, c137, c138, c139, c140, c141, c142, c143, c144, c145, c146, c147, c148, c149, c150, c151, c152, c153, c154, c155, c156, c157, c158, c159, c160, c161, c162, c163, c164, c165, c166, c167, c168, c169, c170, c171, c172, c173, c174, c175, c176, c177, c178, c179, c180, c181, c182, c183, c184, c185, c186, c187, c188, c189, c190, c191, c192, c193, c194, c195, c196, c197, c198, c199, c200, c201, c202, c203, c204, c205, c206, c207, c208, c209, c210, c211, c212, c213, c214, c215, c216, c217, c218, c219, c220, c221, c222, c223, c224, c225, c226, c227, c228, c229, c230, c231, c232, c233, c234, c235, c236, c237, c238, c239, c240, c241, c242, c243, c244, c245, c246, c247, c248, c249, c250, c251, c252, c253, c254, c255, c256, c257, c258, c259, c260, c261, c262, c263, c264, c265, c266, c267, c268, c269, c270, c271, c272, c273, c274, c275, c276, c277, c278, c279, c280, c281, c282, c283, c284, c285, c286, c287, c288, c289, c290, c291, c292, c293, c294, c295, c296, c297, c298, c299, c300, c301, c302, c303, c304, c305, c306, c307, c308], []⟩ wc) := hK
  have HLs : Hid (∀ i, i < N → w.cell? ⟨lb, lo + i, none⟩ = some (.slice (A i) (LL i).length (C i))) := hlists
  have HR : Hid (∀ i, i < N → Rd w (.slice (A i) (LL i).length (C i)) (LL i)) := hrd
  have HLn : Hid (∀ j, j < N → (LL j).length ≤ 131072) := hLn
  clear hK hlists hrd hLn
  go_wp2_with fail
  go_loopw [8] (fun i wr => ∃ k : Nat, k ≤ N ∧ i = .int .i64 k ∧ Inv1 w N LL k wr) (fun i _ => N - (intOf i).toNat)
  case atStart => exact ⟨0, Nat.zero_le _, rfl, h0⟩
  case round =>
    clear h0
    obtain ⟨k, hk, rfl, hI⟩ := hrel
    by_cases hlt : k < N
    · have hl0 := HLs.out k hlt
      have hlb : lb < w.heap.size := World.block_lt_of_cell? _ _ hl0
      have HC : Hid (∀ W, Below w.heap.size w W → Calls Try.prog 7 #[.slice (A k) (LL k).length (C k)] W (CloneQ W (A k).isNone (LL k))) := fun W hW => clone_any ((HR.out k hlt).later hW) (by have := HLn.out k hlt; omega)
      obtain ⟨Ak, hAk⟩ : ∃ x, x = A k := ⟨_, rfl⟩
      obtain ⟨Lk, hLk⟩ : ∃ x, x = (LL k).length := ⟨_, rfl⟩
      obtain ⟨Ck, hCk⟩ : ∃ x, x = C k := ⟨_, rfl⟩
      rw [← hAk, ← hLk, ← hCk] at hl0 HC
      obtain ⟨gs, ms, hg, hm, ho⟩ := hI.vecs
      have hb0 := hI.below
      have hsz := hI.size
      have hl1 : wr.cell? ⟨lb, lo + k, none⟩ = some (.slice Ak Lk Ck) := cell_later hb0 hl0
      have HI : Hid (Inv1 w N LL k wr) := hI
      obtain ⟨hg0, hg1⟩ := hg k hlt
      obtain ⟨hm0, hm1⟩ := hm k hlt
      clear hI hAk hLk hCk hg hm ho
      go_wp2_with fail
      refine (HC.out _ hb0).mono ?_
      rintro e w1 ⟨a1, c1', rfl, o1, b1, n1, _⟩
      have hs1 := b1.size
      have hl2 : w1.cell? ⟨lb, lo + k, none⟩ = some (.slice Ak Lk Ck) := cell_later b1 hl1
      have hg2 : w1.cell? ⟨w.heap.size, k, none⟩ = some (gs k) := cell_later b1 hg0
      have hg3 : w1.frozen? ⟨w.heap.size, k, none⟩ = false := (b1.frozen (p := ⟨w.heap.size, k, none⟩) (by show w.heap.size < _; omega)).trans hg1
      have hm2 : w1.cell? ⟨w.heap.size + 1, k, none⟩ = some (ms k) := cell_later b1 hm0
      have hm3 : w1.frozen? ⟨w.heap.size + 1, k, none⟩ = false := (b1.frozen (p := ⟨w.heap.size + 1, k, none⟩) (by show w.heap.size + 1 < _; omega)).trans hm1
      have hb1 : Below w.heap.size w (w1.setCell ⟨w.heap.size, k, none⟩ (.slice a1 (LL k).length c1')) := ((hb0.trans (b1.mono (by omega))).setCell (by exact Nat.le_refl _) _)
      have O1 : Hid (Own w1 (.slice a1 (LL k).length c1') (LL k)) := o1
      have N1 : Hid (∀ g, (Value.slice a1 (LL k).length c1').ownBlock = some g → wr.heap.size ≤ g) := n1
      have B1 : Hid (Below wr.heap.size wr w1) := b1
      clear o1 n1 b1 hl0 hl1 hg0 hg1 hm0 hm1
      go_wp2_with fail
      refine (HC.out _ hb1).mono ?_
      rintro e w2 ⟨a2, c2', rfl, o2, b2, n2, _⟩
      have hs2 := b2.size
      simp only [World.size_setCell] at b2 n2 hs2
      have hm4 : w2.cell? ⟨w.heap.size + 1, k, none⟩ = some (ms k) := (b2.cell (p := ⟨w.heap.size + 1, k, none⟩) (by show w.heap.size + 1 < _; omega)).trans ((World.cell?_setCell_other _ _ _ _ (by simp)).trans hm2)
      have hm5 : w2.frozen? ⟨w.heap.size + 1, k, none⟩ = false := (b2.frozen (p := ⟨w.heap.size + 1, k, none⟩) (by show w.heap.size + 1 < _; omega)).trans ((World.frozen?_setCell _ _ _ _).trans hm3)
      have R : Hid (Inv1 w N LL (k + 1) (w2.setCell ⟨w.heap.size + 1, k, none⟩ (.slice a2 (LL k).length c2'))) := inv1_step HI.out hlt B1.out O1.out N1.out b2 o2 n2
      clear o2 n2 b2 hb1 hl2 hg2 hg3 hm2 hm3
      go_wp2_with fail
      go_roundw
      case rel => exact ⟨k + 1, by omega, by go_num, R.out⟩
      case measure => simp [intOf]; omega
    · go_wp2_with fail
      obtain rfl : k = N := by omega
      exact HK.out _ _ _ _ _ _ _ _ _ _ _ _ _ _ _ _ _ _ _ _ _ _ _ hI
end Go.Proofs.Qxb6617284a
