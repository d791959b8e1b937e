/-
  The law on two keeps, its loop (block 0 of function 3): m and ref filled.
-/
import Derived.Test.Qxb6617284aTInv
import Derived.Test.Qxb6617284aCode
import Derived.Test.Qxb6617284aInv3
import Derived.Deep.RegionWith
namespace Go.Proofs.Qxb6617284a
set_option linter.unusedVariables false
open Go.RowKit Go.Deep Go.Maps

theorem hidIt {p : Prop} (h : p) : Hid p := h

set_option maxRecDepth 100000 in
set_option maxHeartbeats 800000 in
theorem tloopZ (code : Code) (hcode : Try.f3.body.bind (findBlk 0) = some code) {Kc : Act → World → Prop} {Qp : Ending → World → Prop} (ak : Option Addr) (ck : Nat) (va : Option Addr) (nv vc : Nat) (w w0 : World) {c2 c3 c4 c5 c6 c7 c8 c9 c10 c14 c15 c16 c17 c18 c19 c20 c21 c22 c23 c24 c25 c26 c27 c28 c29 c30 c31 c32 c33 c34 c35 c36 c37 c38 c39 c40 c41 c42 c43 c44 c45 c46 c47 c48 c49 c50 c51 c52 c53 c54 c55 c56 c57 c58 c59 c60 c61 c62 c63 c64 c65 c66 c67 c68 c69 c70 c71 c72 c73 c74 c75 c76 c77 c78 c79 c80 c81 c82 c83 c84 c85 c86 c87 c88 c89 c90 c91 c92 c93 c94 c95 c96 c97 c98 c99 c100 c101 c102 c103 c104 c105 c106 c107 c108 c109 c110 c111 c112 c113 c114 c115 c116 c117 c118 c119 c120 c121 c122 c123 c124 c125 c126 c127 c128 c129 c130 c131 c132 c133 c134 c135 c136 c137 c138 c139 c140 c141 c142 c143 c144 c145 c146 c147 c148 c149 c150 c151 c152 c153 c154 c155 c156 c157 c158 c159 c160 c161 c162 c163 c164 c165 c166 c167 c168 c169 c170 c171 c172 c173 c174 c175 c176 c177 c178 c179 c180 c181 c182 c183 c184 c185 c186 c187 c188 c189 c190 c191 c192 c193 c194 c195 c196 c197 c198 c199 c200 c201 c202 c203 c204 c205 c206 c207 c208 c209 c210 c211 c212 c213 c214 c215 c216 c217 c218 c219 c220 c221 c222 c223 c224 c225 c226 c227 c228 c229 c230 c231 c232 c233 c234 c235 c236 c237 c238 c239 c240 c241 c242 c243 c244 c245 c246 c247 c248 c249 c250 c251 c252 c253 c254 : Value}
     (h0 : TInv w 0 w0) (hK : ∀ (u13 u14 u72 u73 u74 u75 u76 u77 u78 u79 u80 u81 u82 u83 u84 u85 u86 u87 u88 u89 u90 u91 u92 u93 u94 u95 u96 u97 u98 u99 : Value) wc, TInv w 0 wc → Kc ⟨#[.slice ak 0 ck, .slice va nv vc, c2, c3, c4, c5, c6, c7, c8, c9, c10, .map (some w.heap.size), .map (some (w.heap.size + 1)), u13, u14, c15, c16, c17, c18, c19, c20, c21, c22, c23, c24, c25, c26, c27, c28, c29, c30, c31, c32, c33, c34, c35, c36, c37, c38, c39, c40, c41, c42, c43, c44, c45, c46, c47, c48, c49, c50, c51, c52, c53, c54, c55, c56, c57, c58, c59, c60, c61, c62, c63, c64, c65, c66, c67, c68, c69, c70, c71, u72, u73, u74, u75, u76, u77, u78, u79, u80, u81, u82, u83, u84, u85, u86, u87, u88, u89, u90, u91, u92, u93, u94, u95, u96, u97, u98, u99, c100, c101, c102, c103, c104, c105, c106, c107, c108, c109, c110, c111, c112, c113, c114, c115, c116, c117, c118, c119, c120, c121, c122, c123, c124, c125, c126, c127, c128, c129, c130, c131, c132, c133, c134, c135, c136, c137, c138, c139, c140, c141, c142, c143, c144, c145, c146, c147, c148, c149, c150, c151, c152, c153, c154, c155, c156, c157, c158, c159, c160, c161, c162, c163, c164, c165, c166, c167, c168, c169, c170, c171, c172, c173, c174, c175, c176, c177, c178, c179, c180, c181, c182, c183, c184, c185, c186, c187, c188, c189, c190, c191, c192, c193, c194, c195, c196, c197, c198, c199, c200, c201, c202, c203, c204, c205, c206, c207, c208, c209, c210, c211, c212, c213, c214, c215, c216, c217, c218, c219, c220, c221, c222, c223, c224, c225, c226, c227, c228, c229, c230, c231, c232, c233, c234, c235, c236, c237, c238, c239, c240, c241, c242, c243, c244, c245, c246, c247, c248, c249, c250, c251, c252, c253, c254], []⟩ wc) :
    Code.wp Try.prog code (Exit.then Kc (bodyPost Try.prog Try.f3 Qp)) ⟨#[.slice ak 0 ck, .slice va nv vc, c2, c3, c4, c5, c6, c7, c8, c9, c10, .map (some w.heap.size), .map (some (w.heap.size + 1)), .int .i64 0, c14, c15, c16, c17, c18, c19, c20, c21, c22, c23, c24, c25, c26, c27, c28, c29, c30, c31, c32, c33, c34, c35, c36, c37, c38, c39, c40, c41, c42, c43, c44, c45, c46, c47, c48, c49, c50, c51, c52, c53, c54, c55, c56, c57, c58, c59, c60, c61, c62, c63, c64, c65, c66, c67, c68, c69, c70, c71, c72, c73, c74, c75, c76, c77, c78, c79, c80, c81, c82, c83, c84, c85, c86, c87, c88, c89, c90, c91, c92, c93, c94, c95, c96, c97, c98, c99, c100, c101, c102, c103, c104, c105, c106, c107, c108, c109, c110, c111, c112, c113, c114, c115, c116, c117, c118, c119, c120, c121, c122, c123, c124, c125, c126, c127, c128, c129, c130, c131, c132, c133, c134, c135, c136, c137, c138, c139, c140, c141, c142, c143, c144, c145, c146, c147, c148, c149, c150, c151, c152, c153, c154, c155, c156, c157, c158, c159, c160, c161, c162, c163, c164, c165, c166, c167, c168, c169, c170, c171, c172, c173, c174, c175, c176, c177, c178, c179, c180, c181, c182, c183, c184, c185, c186, c187, c188, c189, c190, c191, c192, c193, c194, c195, c196, c197, c198, c199, c200, c201, c202, c203, c204, c205, c206, c207, c208, c209, c210, c211, c212, c213, c214, c215, c216, c217, c218, c219, c220, c221, c222, c223, c224, c225, c226, c227, c228, c229, c230, c231, c232, c233, c234, c235, c236, c237, c238, c239, c240, c241, c242, c243, c244, c245, c246, c247, c248, c249, c250, c251, c252, c253, c254], []⟩ w0 := by
  conv at hcode => lhs; whnf
  simp only [Option.some.injEq] at hcode
  subst hcode
  have HK : Hid (∀ (u13 u14 u72 u73 u74 u75 u76 u77 u78 u79 u80 u81 u82 u83 u84 u85 u86 u87 u88 u89 u90 u91 u92 u93 u94 u95 u96 u97 u98 u99 : Value) wc, TInv w 0 wc → Kc ⟨#[.slice ak 0 ck, .slice va nv vc, c2, c3, c4, c5, c6, c7, c8, c9, c10, .map (some w.heap.size), .map (some (w.heap.size + 1)), u13, u14, c15, c16, c17, c18, c19, c20, c21, c22, c23, c24, c25, c26, c27, c28, c29, c30, c31, c32, c33, c34, c35, c36, c37, c38, c39, c40, c41, c42, c43, c44, c45, c46, c47, c48, c49, c50, c51, c52, c53, c54, c55, c56, c57, c58, c59, c60, c61, c62, c63, c64, c65, c66, c67, c68, c69, c70, c71, u72, u73, u74, u75, u76, u77, u78, u79, u80, u81, u82, u83, u84, u85, u86, u87, u88, u89, u90, u91, u92, u93, u94, u95, u96, u97, u98, u99, c100, c101, c102, c103, c104, c105, c106, c107, c108, c109, c110, c111, c112, c113, c114, c115, c116, c117, c118, c119, c120, c121, c122, c123, c124, c125, c126, c127, c128, c129, c130, c131, c132, c133, c134, c135, c136, c137, c138, c139, c140, c141, c142, c143, c144, c145, c146, c147, c148, c149, c150, c151, c152, c153, c154, c155, c156, c157, c158, c159, c160, c161, c162, c163, c164, c165, c166, c167, c168, c169, c170, c171, c172, c173, c174, c175, c176, c177, c178, c179, c180, c181, c182, c183, c184, c185, c186, c187, c188, c189, c190, c191, c192, c193, c194, c195, c196, c197, c198, c199, c200, c201, c202, c203, c204, c205, c206, c207, c208, c209, c210, c211, c212, c213, c214, c215, c216, c217, c218, c219, c220, c221, c222, c223, c224, c225, c226, c227, c228, c229, c230, c231, c232, c233, c234, c235, c236, c237, c238, c239, c240, c241, c242, c243, c244, c245, c246, c247, c248, c249, c250, c251, c252, c253, c254], []⟩ wc) := hK

  clear hK
  go_wp2_with fail
  refine wp_loop_rounds 1 ?_
  rw [rounds_succ]
  go_wp2_with fail
  exact HK.out _ _ _ _ _ _ _ _ _ _ _ _ _ _ _ _ _ _ _ _ _ _ _ _ _ _ _ _ _ _ _ h0

set_option maxRecDepth 100000 in
set_option maxHeartbeats 800000 in
theorem tloopA (code : Code) (hcode : Try.f3.body.bind (findBlk 0) = some code) {Kc : Act → World → Prop} {Qp : Ending → World → Prop} (kb ko nk ck : Nat) (va : Option Addr) (vc : Nat) (K : Nat → Int) (w w0 : World) {c2 c3 c4 c5 c6 c7 c8 c9 c10 c14 c15 c16 c17 c18 c19 c20 c21 c22 c23 c24 c25 c26 c27 c28 c29 c30 c31 c32 c33 c34 c35 c36 c37 c38 c39 c40 c41 c42 c43 c44 c45 c46 c47 c48 c49 c50 c51 c52 c53 c54 c55 c56 c57 c58 c59 c60 c61 c62 c63 c64 c65 c66 c67 c68 c69 c70 c71 c72 c73 c74 c75 c76 c77 c78 c79 c80 c81 c82 c83 c84 c85 c86 c87 c88 c89 c90 c91 c92 c93 c94 c95 c96 c97 c98 c99 c100 c101 c102 c103 c104 c105 c106 c107 c108 c109 c110 c111 c112 c113 c114 c115 c116 c117 c118 c119 c120 c121 c122 c123 c124 c125 c126 c127 c128 c129 c130 c131 c132 c133 c134 c135 c136 c137 c138 c139 c140 c141 c142 c143 c144 c145 c146 c147 c148 c149 c150 c151 c152 c153 c154 c155 c156 c157 c158 c159 c160 c161 c162 c163 c164 c165 c166 c167 c168 c169 c170 c171 c172 c173 c174 c175 c176 c177 c178 c179 c180 c181 c182 c183 c184 c185 c186 c187 c188 c189 c190 c191 c192 c193 c194 c195 c196 c197 c198 c199 c200 c201 c202 c203 c204 c205 c206 c207 c208 c209 c210 c211 c212 c213 c214 c215 c216 c217 c218 c219 c220 c221 c222 c223 c224 c225 c226 c227 c228 c229 c230 c231 c232 c233 c234 c235 c236 c237 c238 c239 c240 c241 c242 c243 c244 c245 c246 c247 c248 c249 c250 c251 c252 c253 c254 : Value}
    (hnk : nk ≤ 65536) (hkc : ∀ i, i < nk → w.cell? ⟨kb, ko + i, none⟩ = some (.int .i64 (K i))) (hwf : ∀ i, i < nk → (Lit.int .i64 (K i)).wf = true) (h0 : TInv w 0 w0) (hK : ∀ (u13 u14 u72 u73 u74 u75 u76 u77 u78 u79 u80 u81 u82 u83 u84 u85 u86 u87 u88 u89 u90 u91 u92 u93 u94 u95 u96 u97 u98 u99 : Value) wc, TInv w nk wc → Kc ⟨#[.slice (some ⟨kb, ko, none⟩) nk ck, .slice va 0 vc, c2, c3, c4, c5, c6, c7, c8, c9, c10, .map (some w.heap.size), .map (some (w.heap.size + 1)), u13, u14, c15, c16, c17, c18, c19, c20, c21, c22, c23, c24, c25, c26, c27, c28, c29, c30, c31, c32, c33, c34, c35, c36, c37, c38, c39, c40, c41, c42, c43, c44, c45, c46, c47, c48, c49, c50, c51, c52, c53, c54, c55, c56, c57, c58, c59, c60, c61, c62, c63, c64, c65, c66, c67, c68, c69, c70, c71, u72, u73, u74, u75, u76, u77, u78, u79, u80, u81, u82, u83, u84, u85, u86, u87, u88, u89, u90, u91, u92, u93, u94, u95, u96, u97, u98, u99, c100, c101, c102, c103, c104, c105, c106, c107, c108, c109, c110, c111, c112, c113, c114, c115, c116, c117, c118, c119, c120, c121, c122, c123, c124, c125, c126, c127, c128, c129, c130, c131, c132, c133, c134, c135, c136, c137, c138, c139, c140, c141, c142, c143, c144, c145, c146, c147, c148, c149, c150, c151, c152, c153, c154, c155, c156, c157, c158, c159, c160, c161, c162, c163, c164, c165, c166, c167, c168, c169, c170, c171, c172, c173, c174, c175, c176, c177, c178, c179, c180, c181, c182, c183, c184, c185, c186, c187, c188, c189, c190, c191, c192, c193, c194, c195, c196, c197, c198, c199, c200, c201, c202, c203, c204, c205, c206, c207, c208, c209, c210, c211, c212, c213, c214, c215, c216, c217, c218, c219, c220, c221, c222, c223, c224, c225, c226, c227, c228, c229, c230, c231, c232, c233, c234, c235, c236, c237, c238, c239, c240, c241, c242, c243, c244, c245, c246, c247, c248, c249, c250, c251, c252, c253, c254], []⟩ wc) :
    Code.wp Try.prog code (Exit.then Kc (bodyPost Try.prog Try.f3 Qp)) ⟨#[.slice (some ⟨kb, ko, none⟩) nk ck, .slice va 0 vc, c2, c3, c4, c5, c6, c7, c8, c9, c10, .map (some w.heap.size), .map (some (w.heap.size + 1)), .int .i64 0, c14, c15, c16, c17, c18, c19, c20, c21, c22, c23, c24, c25, c26, c27, c28, c29, c30, c31, c32, c33, c34, c35, c36, c37, c38, c39, c40, c41, c42, c43, c44, c45, c46, c47, c48, c49, c50, c51, c52, c53, c54, c55, c56, c57, c58, c59, c60, c61, c62, c63, c64, c65, c66, c67, c68, c69, c70, c71, c72, c73, c74, c75, c76, c77, c78, c79, c80, c81, c82, c83, c84, c85, c86, c87, c88, c89, c90, c91, c92, c93, c94, c95, c96, c97, c98, c99, c100, c101, c102, c103, c104, c105, c106, c107, c108, c109, c110, c111, c112, c113, c114, c115, c116, c117, c118, c119, c120, c121, c122, c123, c124, c125, c126, c127, c128, c129, c130, c131, c132, c133, c134, c135, c136, c137, c138, c139, c140, c141, c142, c143, c144, c145, c146, c147, c148, c149, c150, c151, c152, c153, c154, c155, c156, c157, c158, c159, c160, c161, c162, c163, c164, c165, c166, c167, c168, c169, c170, c171, c172, c173, c174, c175, c176, c177, c178, c179, c180, c181, c182, c183, c184, c185, c186, c187, c188, c189, c190, c191, c192, c193, c194, c195, c196, c197, c198, c199, c200, c201, c202, c203, c204, c205, c206, c207, c208, c209, c210, c211, c212, c213, c214, c215, c216, c217, c218, c219, c220, c221, c222, c223, c224, c225, c226, c227, c228, c229, c230, c231, c232, c233, c234, c235, c236, c237, c238, c239, c240, c241, c242, c243, c244, c245, c246, c247, c248, c249, c250, c251, c252, c253, c254], []⟩ w0 := by
  conv at hcode => lhs; whnf
  simp only [Option.some.injEq] at hcode
  subst hcode
  have HK : Hid (∀ (u13 u14 u72 u73 u74 u75 u76 u77 u78 u79 u80 u81 u82 u83 u84 u85 u86 u87 u88 u89 u90 u91 u92 u93 u94 u95 u96 u97 u98 u99 : Value) wc, TInv w nk wc → Kc ⟨#[.slice (some ⟨kb, ko, none⟩) nk ck, .slice va 0 vc, c2, c3, c4, c5, c6, c7, c8, c9, c10, .map (some w.heap.size), .map (some (w.heap.size + 1)), u13, u14, c15, c16, c17, c18, c19, c20, c21, c22, c23, c24, c25, c26, c27, c28, c29, c30, c31, c32, c33, c34, c35, c36, c37, c38, c39, c40, c41, c42, c43, c44, c45, c46, c47, c48, c49, c50, c51, c52, c53, c54, c55, c56, c57, c58, c59, c60, c61, c62, c63, c64, c65, c66, c67, c68, c69, c70, c71, u72, u73, u74, u75, u76, u77, u78, u79, u80, u81, u82, u83, u84, u85, u86, u87, u88, u89, u90, u91, u92, u93, u94, u95, u96, u97, u98, u99, c100, c101, c102, c103, c104, c105, c106, c107, c108, c109, c110, c111, c112, c113, c114, c115, c116, c117, c118, c119, c120, c121, c122, c123, c124, c125, c126, c127, c128, c129, c130, c131, c132, c133, c134, c135, c136, c137, c138, c139, c140, c141, c142, c143, c144, c145, c146, c147, c148, c149, c150, c151, c152, c153, c154, c155, c156, c157, c158, c159, c160, c161, c162, c163, c164, c165, c166, c167, c168, c169, c170, c171, c172, c173, c174, c175, c176, c177, c178, c179, c180, c181, c182, c183, c184, c185, c186, c187, c188, c189, c190, c191, c192, c193, c194, c195, c196, c197, c198, c199, c200, c201, c202, c203, c204, c205, c206, c207, c208, c209, c210, c211, c212, c213, c214, c215, c216, c217, c218, c219, c220, c221, c222, c223, c224, c225, c226, c227, c228, c229, c230, c231, c232, c233, c234, c235, c236, c237, c238, c239, c240, c241, c242, c243, c244, c245, c246, c247, c248, c249, c250, c251, c252, c253, c254], []⟩ wc) := hK
  have HKc : Hid (∀ i, i < nk → w.cell? ⟨kb, ko + i, none⟩ = some (.int .i64 (K i))) := hkc
  have HW : Hid (∀ i, i < nk → (Lit.int .i64 (K i)).wf = true) := hwf
  clear hkc hwf
  clear hK
  go_wp2_with fail
  go_loopw [13] (fun i wr => ∃ k : Nat, k ≤ nk ∧ i = .int .i64 k ∧ TInv w k wr ∧ Hid (Below w.heap.size w wr)) (fun i _ => nk - (intOf i).toNat)
  case atStart => exact ⟨0, Nat.zero_le _, rfl, h0, (let ⟨_, _, _, _, hT, _⟩ := h0; hT.below)⟩
  case round =>
    clear h0
    obtain ⟨k, hk, rfl, hI, HBl⟩ := hrel
    by_cases hlt : k < nk
    · have hk0 := HKc.out k hlt
      have hwk := HW.out k hlt
      have hk1 : wr.cell? ⟨kb, ko + k, none⟩ = some (.int .i64 (K k)) := cell_later HBl.out hk0
      have hi0 : (0 : Int) ≤ (k : Int) := by omega
      have hi1 : (k : Int) < (nk : Int) := by omega
      have hcall := tround hI (by omega) hwk (rd_nil w) (by simp)
      have HC := hidIt hcall
      clear hcall
      simp only [List.length_nil] at HC
      obtain ⟨Kk, hKk⟩ : ∃ x, x = K k := ⟨_, rfl⟩
      rw [← hKk] at hk1 hk0 HC
      clear hI hwk hKk
      go_wp2_with fail
      go_region_with (go_at_call 7; refine HC.out.mono ?_; rintro e w1 ⟨a1, c1', rfl, hb1, w2, r2, hb2, hcall2⟩; have hk2 : w1.cell? ⟨kb, ko + k, none⟩ = some (.int .i64 Kk) := cell_later hb1 hk0; have hk3 : w2.cell? ⟨kb, ko + k, none⟩ = some (.int .i64 Kk) := cell_later hb2 hk0; have HC2 : Hid (Calls Try.prog 7 #[.slice none 0 0] w2.drew fun e w3 => ∃ a3 c3, e = .returned (.slice a3 0 c3) ∧ Below w.heap.size w w3 ∧ ∃ w4, (Instr.mapUpdate 26 (.map (some (w.heap.size + 1))) (.int .i64 Kk) (.slice a3 0 c3)).run Try.prog w3 = .ok () w4 ∧ TInv w (k + 1) w4) := hcall2; clear hcall2 hb1 hb2)
      all_goals go_wp2_with fail
      all_goals go_region_with (go_at_call 7; refine HC2.out.mono ?_; rintro e w3 ⟨a3, c3', rfl, hb3, w4, r4, hT4⟩; have hk4 : w3.cell? ⟨kb, ko + k, none⟩ = some (.int .i64 Kk) := cell_later hb3 hk0; have R : Hid (TInv w (k + 1) w4) := hT4; clear hT4 hb3)
      all_goals
        go_wp2_with fail
        go_roundw
        case rel => exact ⟨k + 1, by omega, by go_num, R.out, (let ⟨_, _, _, _, hT, _⟩ := R.out; hT.below)⟩
        case measure => simp [intOf]; omega
    · go_wp2_with fail
      obtain rfl : k = nk := by omega
      exact HK.out _ _ _ _ _ _ _ _ _ _ _ _ _ _ _ _ _ _ _ _ _ _ _ _ _ _ _ _ _ _ _ hI

set_option maxRecDepth 100000 in
set_option maxHeartbeats 800000 in
theorem tloopB (code : Code) (hcode : Try.f3.body.bind (findBlk 0) = some code) {Kc : Act → World → Prop} {Qp : Ending → World → Prop} (kb ko nk ck vb vo nv vc : Nat) (K : Nat → Int) (A : Nat → Option Addr) (C : Nat → Nat) (VL : Nat → List Int) (w w0 : World) {c2 c3 c4 c5 c6 c7 c8 c9 c10 c14 c15 c16 c17 c18 c19 c20 c21 c22 c23 c24 c25 c26 c27 c28 c29 c30 c31 c32 c33 c34 c35 c36 c37 c38 c39 c40 c41 c42 c43 c44 c45 c46 c47 c48 c49 c50 c51 c52 c53 c54 c55 c56 c57 c58 c59 c60 c61 c62 c63 c64 c65 c66 c67 c68 c69 c70 c71 c72 c73 c74 c75 c76 c77 c78 c79 c80 c81 c82 c83 c84 c85 c86 c87 c88 c89 c90 c91 c92 c93 c94 c95 c96 c97 c98 c99 c100 c101 c102 c103 c104 c105 c106 c107 c108 c109 c110 c111 c112 c113 c114 c115 c116 c117 c118 c119 c120 c121 c122 c123 c124 c125 c126 c127 c128 c129 c130 c131 c132 c133 c134 c135 c136 c137 c138 c139 c140 c141 c142 c143 c144 c145 c146 c147 c148 c149 c150 c151 c152 c153 c154 c155 c156 c157 c158 c159 c160 c161 c162 c163 c164 c165 c166 c167 c168 c169 c170 c171 c172 c173 c174 c175 c176 c177 c178 c179 c180 c181 c182 c183 c184 c185 c186 c187 c188 c189 c190 c191 c192 c193 c194 c195 c196 c197 c198 c199 c200 c201 c202 c203 c204 c205 c206 c207 c208 c209 c210 c211 c212 c213 c214 c215 c216 c217 c218 c219 c220 c221 c222 c223 c224 c225 c226 c227 c228 c229 c230 c231 c232 c233 c234 c235 c236 c237 c238 c239 c240 c241 c242 c243 c244 c245 c246 c247 c248 c249 c250 c251 c252 c253 c254 : Value}
    (hnk : nk ≤ 65536) (hnv : nv ≤ 65536) (hkc : ∀ i, i < nk → w.cell? ⟨kb, ko + i, none⟩ = some (.int .i64 (K i))) (hwf : ∀ i, i < nk → (Lit.int .i64 (K i)).wf = true)
    (hvc : ∀ i, i < nv → w.cell? ⟨vb, vo + i, none⟩ = some (.slice (A i) (VL i).length (C i))) (hvr : ∀ i, i < nv → Rd w (.slice (A i) (VL i).length (C i)) (VL i)) (hvl : ∀ i, i < nv → (VL i).length ≤ 131072) (h0 : TInv w 0 w0) (hK : ∀ (u13 u14 u72 u73 u74 u75 u76 u77 u78 u79 u80 u81 u82 u83 u84 u85 u86 u87 u88 u89 u90 u91 u92 u93 u94 u95 u96 u97 u98 u99 : Value) wc, TInv w nk wc → Kc ⟨#[.slice (some ⟨kb, ko, none⟩) nk ck, .slice (some ⟨vb, vo, none⟩) nv vc, c2, c3, c4, c5, c6, c7, c8, c9, c10, .map (some w.heap.size), .map (some (w.heap.size + 1)), u13, u14, c15, c16, c17, c18, c19, c20, c21, c22, c23, c24, c25, c26, c27, c28, c29, c30, c31, c32, c33, c34, c35, c36, c37, c38, c39, c40, c41, c42, c43, c44, c45, c46, c47, c48, c49, c50, c51, c52, c53, c54, c55, c56, c57, c58, c59, c60, c61, c62, c63, c64, c65, c66, c67, c68, c69, c70, c71, u72, u73, u74, u75, u76, u77, u78, u79, u80, u81, u82, u83, u84, u85, u86, u87, u88, u89, u90, u91, u92, u93, u94, u95, u96, u97, u98, u99, c100, c101, c102, c103, c104, c105, c106, c107, c108, c109, c110, c111, c112, c113, c114, c115, c116, c117, c118, c119, c120, c121, c122, c123, c124, c125, c126, c127, c128, c129, c130, c131, c132, c133, c134, c135, c136, c137, c138, c139, c140, c141, c142, c143, c144, c145, c146, c147, c148, c149, c150, c151, c152, c153, c154, c155, c156, c157, c158, c159, c160, c161, c162, c163, c164, c165, c166, c167, c168, c169, c170, c171, c172, c173, c174, c175, c176, c177, c178, c179, c180, c181, c182, c183, c184, c185, c186, c187, c188, c189, c190, c191, c192, c193, c194, c195, c196, c197, c198, c199, c200, c201, c202, c203, c204, c205, c206, c207, c208, c209, c210, c211, c212, c213, c214, c215, c216, c217, c218, c219, c220, c221, c222, c223, c224, c225, c226, c227, c228, c229, c230, c231, c232, c233, c234, c235, c236, c237, c238, c239, c240, c241, c242, c243, c244, c245, c246, c247, c248, c249, c250, c251, c252, c253, c254], []⟩ wc) :
    Code.wp Try.prog code (Exit.then Kc (bodyPost Try.prog Try.f3 Qp)) ⟨#[.slice (some ⟨kb, ko, none⟩) nk ck, .slice (some ⟨vb, vo, none⟩) nv vc, c2, c3, c4, c5, c6, c7, c8, c9, c10, .map (some w.heap.size), .map (some (w.heap.size + 1)), .int .i64 0, c14, c15, c16, c17, c18, c19, c20, c21, c22, c23, c24, c25, c26, c27, c28, c29, c30, c31, c32, c33, c34, c35, c36, c37, c38, c39, c40, c41, c42, c43, c44, c45, c46, c47, c48, c49, c50, c51, c52, c53, c54, c55, c56, c57, c58, c59, c60, c61, c62, c63, c64, c65, c66, c67, c68, c69, c70, c71, c72, c73, c74, c75, c76, c77, c78, c79, c80, c81, c82, c83, c84, c85, c86, c87, c88, c89, c90, c91, c92, c93, c94, c95, c96, c97, c98, c99, c100, c101, c102, c103, c104, c105, c106, c107, c108, c109, c110, c111, c112, c113, c114, c115, c116, c117, c118, c119, c120, c121, c122, c123, c124, c125, c126, c127, c128, c129, c130, c131, c132, c133, c134, c135, c136, c137, c138, c139, c140, c141, c142, c143, c144, c145, c146, c147, c148, c149, c150, c151, c152, c153, c154, c155, c156, c157, c158, c159, c160, c161, c162, c163, c164, c165, c166, c167, c168, c169, c170, c171, c172, c173, c174, c175, c176, c177, c178, c179, c180, c181, c182, c183, c184, c185, c186, c187, c188, c189, c190, c191, c192, c193, c194, c195, c196, c197, c198, c199, c200, c201, c202, c203, c204, c205, c206, c207, c208, c209, c210, c211, c212, c213, c214, c215, c216, c217, c218, c219, c220, c221, c222, c223, c224, c225, c226, c227, c228, c229, c230, c231, c232, c233, c234, c235, c236, c237, c238, c239, c240, c241, c242, c243, c244, c245, c246, c247, c248, c249, c250, c251, c252, c253, c254], []⟩ w0 := by
  conv at hcode => lhs; whnf
  simp only [Option.some.injEq] at hcode
  subst hcode
  have HK : Hid (∀ (u13 u14 u72 u73 u74 u75 u76 u77 u78 u79 u80 u81 u82 u83 u84 u85 u86 u87 u88 u89 u90 u91 u92 u93 u94 u95 u96 u97 u98 u99 : Value) wc, TInv w nk wc → Kc ⟨#[.slice (some ⟨kb, ko, none⟩) nk ck, .slice (some ⟨vb, vo, none⟩) nv vc, c2, c3, c4, c5, c6, c7, c8, c9, c10, .map (some w.heap.size), .map (some (w.heap.size + 1)), u13, u14, c15, c16, c17, c18, c19, c20, c21, c22, c23, c24, c25, c26, c27, c28, c29, c30, c31, c32, c33, c34, c35, c36, c37, c38, c39, c40, c41, c42, c43, c44, c45, c46, c47, c48, c49, c50, c51, c52, c53, c54, c55, c56, c57, c58, c59, c60, c61, c62, c63, c64, c65, c66, c67, c68, c69, c70, c71, u72, u73, u74, u75, u76, u77, u78, u79, u80, u81, u82, u83, u84, u85, u86, u87, u88, u89, u90, u91, u92, u93, u94, u95, u96, u97, u98, u99, c100, c101, c102, c103, c104, c105, c106, c107, c108, c109, c110, c111, c112, c113, c114, c115, c116, c117, c118, c119, c120, c121, c122, c123, c124, c125, c126, c127, c128, c129, c130, c131, c132, c133, c134, c135, c136, c137, c138, c139, c140, c141, c142, c143, c144, c145, c146, c147, c148, c149, c150, c151, c152, c153, c154, c155, c156, c157, c158, c159, c160, c161, c162, c163, c164, c165, c166, c167, c168, c169, c170, c171, c172, c173, c174, c175, c176, c177, c178, c179, c180, c181, c182, c183, c184, c185, c186, c187, c188, c189, c190, c191, c192, c193, c194, c195, c196, c197, c198, c199, c200, c201, c202, c203, c204, c205, c206, c207, c208, c209, c210, c211, c212, c213, c214, c215, c216, c217, c218, c219, c220, c221, c222, c223, c224, c225, c226, c227, c228, c229, c230, c231, c232, c233, c234, c235, c236, c237, c238, c239, c240, c241, c242, c243, c244, c245, c246, c247, c248, c249, c250, c251, c252, c253, c254], []⟩ wc) := hK
  have HKc : Hid (∀ i, i < nk → w.cell? ⟨kb, ko + i, none⟩ = some (.int .i64 (K i))) := hkc
  have HW : Hid (∀ i, i < nk → (Lit.int .i64 (K i)).wf = true) := hwf
  clear hkc hwf
  have HVc : Hid (∀ i, i < nv → w.cell? ⟨vb, vo + i, none⟩ = some (.slice (A i) (VL i).length (C i))) := hvc
  have HVr : Hid (∀ i, i < nv → Rd w (.slice (A i) (VL i).length (C i)) (VL i)) := hvr
  have HVl : Hid (∀ i, i < nv → (VL i).length ≤ 131072) := hvl
  clear hvc hvr hvl
  clear hK
  go_wp2_with fail
  go_loopw [13] (fun i wr => ∃ k : Nat, k ≤ nk ∧ i = .int .i64 k ∧ TInv w k wr ∧ Hid (Below w.heap.size w wr)) (fun i _ => nk - (intOf i).toNat)
  case atStart => exact ⟨0, Nat.zero_le _, rfl, h0, (let ⟨_, _, _, _, hT, _⟩ := h0; hT.below)⟩
  case round =>
    clear h0
    obtain ⟨k, hk, rfl, hI, HBl⟩ := hrel
    by_cases hlt : k < nk
    · have hk0 := HKc.out k hlt
      have hwk := HW.out k hlt
      have hk1 : wr.cell? ⟨kb, ko + k, none⟩ = some (.int .i64 (K k)) := cell_later HBl.out hk0
      have hi0 : (0 : Int) ≤ (k : Int) := by omega
      have hi1 : (k : Int) < (nk : Int) := by omega
      by_cases hv : k < nv
      · have hv1 : wr.cell? ⟨vb, vo + k, none⟩ = some (.slice (A k) (VL k).length (C k)) := cell_later HBl.out (HVc.out k hv)
        have hcall := tround hI (by omega) hwk (HVr.out k hv) (by have := HVl.out k hv; omega)
        have HC := hidIt hcall
        clear hcall
        obtain ⟨Ak, hAk⟩ : ∃ x, x = A k := ⟨_, rfl⟩
        obtain ⟨Lk, hLk⟩ : ∃ x, x = (VL k).length := ⟨_, rfl⟩
        obtain ⟨Ck, hCk⟩ : ∃ x, x = C k := ⟨_, rfl⟩
        rw [← hAk, ← hLk, ← hCk] at hv1 HC
        clear hAk hLk hCk
        obtain ⟨Kk, hKk⟩ : ∃ x, x = K k := ⟨_, rfl⟩
        rw [← hKk] at hk1 hk0 HC
        clear hI hwk hKk
        go_wp2_with fail
        go_region_with (go_at_call 7; refine HC.out.mono ?_; rintro e w1 ⟨a1, c1', rfl, hb1, w2, r2, hb2, hcall2⟩; have hk2 : w1.cell? ⟨kb, ko + k, none⟩ = some (.int .i64 Kk) := cell_later hb1 hk0; have hk3 : w2.cell? ⟨kb, ko + k, none⟩ = some (.int .i64 Kk) := cell_later hb2 hk0; have HC2 : Hid (Calls Try.prog 7 #[.slice Ak Lk Ck] w2.drew fun e w3 => ∃ a3 c3, e = .returned (.slice a3 Lk c3) ∧ Below w.heap.size w w3 ∧ ∃ w4, (Instr.mapUpdate 26 (.map (some (w.heap.size + 1))) (.int .i64 Kk) (.slice a3 Lk c3)).run Try.prog w3 = .ok () w4 ∧ TInv w (k + 1) w4) := hcall2; clear hcall2 hb1 hb2)
        all_goals go_wp2_with fail
        all_goals go_region_with (go_at_call 7; refine HC2.out.mono ?_; rintro e w3 ⟨a3, c3', rfl, hb3, w4, r4, hT4⟩; have hk4 : w3.cell? ⟨kb, ko + k, none⟩ = some (.int .i64 Kk) := cell_later hb3 hk0; have R : Hid (TInv w (k + 1) w4) := hT4; clear hT4 hb3)
        all_goals
          go_wp2_with fail
          go_roundw
          case rel => exact ⟨k + 1, by omega, by go_num, R.out, (let ⟨_, _, _, _, hT, _⟩ := R.out; hT.below)⟩
          case measure => simp [intOf]; omega
      · have hcall := tround hI (by omega) hwk (rd_nil w) (by simp)
        have HC := hidIt hcall
        clear hcall
        simp only [List.length_nil] at HC
        obtain ⟨Kk, hKk⟩ : ∃ x, x = K k := ⟨_, rfl⟩
        rw [← hKk] at hk1 hk0 HC
        clear hI hwk hKk
        go_wp2_with fail
        go_region_with (go_at_call 7; refine HC.out.mono ?_; rintro e w1 ⟨a1, c1', rfl, hb1, w2, r2, hb2, hcall2⟩; have hk2 : w1.cell? ⟨kb, ko + k, none⟩ = some (.int .i64 Kk) := cell_later hb1 hk0; have hk3 : w2.cell? ⟨kb, ko + k, none⟩ = some (.int .i64 Kk) := cell_later hb2 hk0; have HC2 : Hid (Calls Try.prog 7 #[.slice none 0 0] w2.drew fun e w3 => ∃ a3 c3, e = .returned (.slice a3 0 c3) ∧ Below w.heap.size w w3 ∧ ∃ w4, (Instr.mapUpdate 26 (.map (some (w.heap.size + 1))) (.int .i64 Kk) (.slice a3 0 c3)).run Try.prog w3 = .ok () w4 ∧ TInv w (k + 1) w4) := hcall2; clear hcall2 hb1 hb2)
        all_goals go_wp2_with fail
        all_goals go_region_with (go_at_call 7; refine HC2.out.mono ?_; rintro e w3 ⟨a3, c3', rfl, hb3, w4, r4, hT4⟩; have hk4 : w3.cell? ⟨kb, ko + k, none⟩ = some (.int .i64 Kk) := cell_later hb3 hk0; have R : Hid (TInv w (k + 1) w4) := hT4; clear hT4 hb3)
        all_goals
          go_wp2_with fail
          go_roundw
          case rel => exact ⟨k + 1, by omega, by go_num, R.out, (let ⟨_, _, _, _, hT, _⟩ := R.out; hT.below)⟩
          case measure => simp [intOf]; omega
    · go_wp2_with fail
      obtain rfl : k = nk := by omega
      exact HK.out _ _ _ _ _ _ _ _ _ _ _ _ _ _ _ _ _ _ _ _ _ _ _ _ _ _ _ _ _ _ _ hI

end Go.Proofs.Qxb6617284a

