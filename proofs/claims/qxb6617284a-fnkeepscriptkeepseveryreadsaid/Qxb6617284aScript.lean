/-
  The script law, whole, where a step is made (N is not 0).
-/
import Derived.Test.Qxb6617284aL1
import Derived.Test.Qxb6617284aL2
import Derived.Test.Qxb6617284aL3
import Derived.Test.Qxb6617284aL4
import Derived.Test.Qxb6617284aL5
import Derived.Test.Qxb6617284aL6
import Derived.Test.Qxb6617284aL7
import Derived.Deep.CutBlock
namespace Go.Proofs.Qxb6617284a
set_option linter.unusedVariables false
open Go.RowKit Go.Deep Go.Maps

set_option maxRecDepth 100000 in
set_option maxHeartbeats 3200000 in
theorem script_full (kb ko nk ck lb lo nl cl N : Nat) (w : World) (K : Nat → Int) (LL : Nat → List Int) (A : Nat → Option Addr) (C : Nat → Nat)
   (hN : Hid (N = min nk nl)) (hN0 : 0 < N) (hNk : N ≤ nk) (hNl : N ≤ nl) (hnk : nk ≤ 9223372036854775807) (hnl : nl ≤ 9223372036854775807)
   (h14 : Calls Try.prog 14 #[.slice (some ⟨kb, ko, none⟩) nk ck, .slice (some ⟨lb, lo, none⟩) nl cl] w fun e w' => BoolQ e ∧ w' = w)
   (h6 : ∀ t : Int, 0 ≤ t → t ≤ 9223372036854775807 → Calls Try.prog 6 #[.slice (some ⟨lb, lo, none⟩) nl cl, .int .i64 t] w fun e w' => NestedQ nl (fun j => (LL j).length) e ∧ w' = w)
   (hkeys : ∀ i, i < N → w.cell? ⟨kb, ko + i, none⟩ = some (.int .i64 (K i))) (hwf : ∀ i, i < N → (Lit.int .i64 (K i)).wf = true)
   (hlists : ∀ i, i < N → w.cell? ⟨lb, lo + i, none⟩ = some (.slice (A i) (LL i).length (C i)))
   (hrd : ∀ i, i < N → Rd w (.slice (A i) (LL i).length (C i)) (LL i)) :
   Calls Try.prog 4 #[.slice (some ⟨kb, ko, none⟩) nk ck, .slice (some ⟨lb, lo, none⟩) nl cl] w fun e w' => e = .returned (.bool true) ∧ Below w.heap.size w w' := by
  have H14 : Hid (Calls Try.prog 14 #[.slice (some ⟨kb, ko, none⟩) nk ck, .slice (some ⟨lb, lo, none⟩) nl cl] w fun e w' => BoolQ e ∧ w' = w) := h14
  have H6 : Hid (∀ t : Int, 0 ≤ t → t ≤ 9223372036854775807 → Calls Try.prog 6 #[.slice (some ⟨lb, lo, none⟩) nl cl, .int .i64 t] w fun e w' => NestedQ nl (fun j => (LL j).length) e ∧ w' = w) := h6
  have HK : Hid (∀ i, i < N → w.cell? ⟨kb, ko + i, none⟩ = some (.int .i64 (K i))) := hkeys
  have HW : Hid (∀ i, i < N → (Lit.int .i64 (K i)).wf = true) := hwf
  have HLs : Hid (∀ i, i < N → w.cell? ⟨lb, lo + i, none⟩ = some (.slice (A i) (LL i).length (C i))) := hlists
  have HR : Hid (∀ i, i < N → Rd w (.slice (A i) (LL i).length (C i)) (LL i)) := hrd
  clear h14 h6 hkeys hlists hrd hwf
  by_cases t1 : 65536 < nk
  · go_enter Try.func4, Try.ntmps4
    go_wp2_with (go_at_call 14; refine H14.out.mono ?_; rintro e w1 ⟨⟨r, rfl⟩, hw1⟩; have hw2 := hw1.symm; clear hw1; subst hw2; cases r)
    all_goals
      go_ret
      exact ⟨rfl, Below.refl _ _⟩
  by_cases t2 : 65536 < nl
  · go_enter Try.func4, Try.ntmps4
    go_wp2_with (go_at_call 14; refine H14.out.mono ?_; rintro e w1 ⟨⟨r, rfl⟩, hw1⟩; have hw2 := hw1.symm; clear hw1; subst hw2; cases r)
    all_goals
      go_ret
      exact ⟨rfl, Below.refl _ _⟩
  have hmk1 := run_make_row' (P := Try.prog) 23 22 (.slice none 0 0) 24 Try.underlying23 Try.info22 rfl .i64 .i64 N (by omega) (by omega)
  have hmm := @run_makeMap Try.prog
  have hNn : nl < nk ∨ ¬ nl < nk := by omega
  have HNe : (nl < nk ∧ N = nl) ∨ (¬ nl < nk ∧ N = nk) := by have := hN.out; omega
  clear hNn hN
  rcases HNe with ⟨t3, rfl⟩ | ⟨t3, rfl⟩
  all_goals
    go_enter Try.func4, Try.ntmps4
    go_upto_block 0 with (first | (go_at_call 14; refine H14.out.mono ?_; rintro e w1 ⟨⟨r, rfl⟩, hw1⟩; have hw2 := hw1.symm; clear hw1; subst hw2; cases r) | (go_at_call 6; refine (H6.out _ (by omega) (by omega)).mono ?_; rintro e w1 ⟨⟨r, rfl, hr⟩, hw1⟩; have hw2 := hw1.symm; clear hw1; subst hw2; cases r))
    · go_ret
      exact ⟨rfl, Below.refl _ _⟩
    · go_ret
      exact ⟨rfl, Below.refl _ _⟩
    have hLn0 := hr trivial
    have HLn : Hid (∀ j, j < N → (LL j).length ≤ 131072) := fun j hj => hLn0 j (by omega)
    clear hr hLn0 H14 H6
    refine loop1 _ (by kernel_rfl) lb lo _ cl N w _ LL A C hNl (by omega) hnl HLs.out HR.out HLn.out (inv1_start w N LL) ?_
    intro u8 u65 u66 u67 u68 u69 u70 u71 u72 u73 u74 u75 u76 u77 u78 u79 u80 u81 u82 u83 u84 u85 w1 hI1
    have HS1 : Hid (Stat w1 kb ko w.heap.size (w.heap.size + 1) N K LL) := inv1_stat hI1 HK.out
    have HB1 : Hid (Below w.heap.size w w1) := hI1.below
    clear hI1
    go_upto_block 2 with (go_at_call 9; refine (newlists_any _ _ _ _ _).mono ?_; rintro e w' ⟨rfl, rfl⟩)
    refine loop2 _ (by kernel_rfl) kb ko _ ck w.heap.size (w.heap.size + 1) N w1 _ K LL hNk (by omega) hnk HS1.out HW.out HLn.out (inv2_start w1 N K LL) ?_
    intro u12 u91 u92 u93 u94 u95 u96 u97 u98 u99 u100 u101 u102 u103 u104 u105 u106 u107 u108 w2 hI2
    have HF2 : Hid (Fin2 w2 kb ko (w.heap.size + 1) (w1.heap.size + 2) w1.heap.size N K LL) := inv2_fin HS1.out hI2
    have HB2 : Hid (Below w.heap.size w w2) := HB1.out.trans (hI2.below.mono HB1.out.size)
    clear hI2 HB1
    go_upto_block 4 with fail
    refine loop3 _ (by kernel_rfl) kb ko (w.heap.size + 1) (w1.heap.size + 2) w1.heap.size N w2 K LL (by omega) HF2.out ?_
    intro u4 u13 u109 u110 u111 u112 u113 u114 u115 u116 u117 u118 u119 u120 u121 u122 u123 u124 u125 u126 u127 u128 u129 u130 m3
    have HF3 : Hid (Fin2 (w2.drewN m3) kb ko (w.heap.size + 1) (w1.heap.size + 2) w1.heap.size N K LL) := HF2.out.drew m3
    have HB3 : Hid (Below w.heap.size w (w2.drewN m3)) := ⟨HB2.out.os, HB2.out.tape, HB2.out.output, HB2.out.size, HB2.out.block⟩
    clear HF2 HB2
    generalize w2.drewN m3 = w3 at HF3 HB3 ⊢
    go_upto_block 6 with fail
    refine loop4 _ (by kernel_rfl) kb ko _ ck (w.heap.size + 1) (w1.heap.size + 2) w1.heap.size N w3 _ K LL hNk (by omega) hnk HF3.out HW.out HLn.out (inv4_start w3 K LL) ?_
    intro u16 u17 u18 u19 u133 u134 u135 u136 u137 u138 u139 u140 u141 u142 u143 u144 u145 u146 u147 u148 u149 u150 u151 u152 u153 u154 u155 u156 u157 u158 u159 u160 u161 u162 u163 u164 u165 u166 u167 u168 u169 u170 u171 u172 u173 u174 u175 u176 u177 w4 hI4
    have HI4 : Hid (Inv4 w3 K LL N w4) := hI4
    have HF4 : Hid (Fin2 w4 kb ko (w.heap.size + 1) (w1.heap.size + 2) w1.heap.size N K LL) := HF3.out.later hI4.below
    have HB4 : Hid (Below w.heap.size w w4) := HB3.out.trans (hI4.below.mono HB3.out.size)
    obtain ⟨cL, _, hlg4⟩ := hI4.longest
    have HL4 : Hid (MapIs w4 (w3.heap.size + 1) (ixM (lng K LL N)) cL) := hlg4
    have HP4 : Hid (MapIs w4 w3.heap.size (ixM (fst' K LL N)) (cnt K LL N)) := hI4.first
    clear HF3 HB3 hI4 hlg4
    go_upto_block 8 with fail
    refine loop5 _ (by kernel_rfl) kb ko _ ck (w.heap.size + 1) (w1.heap.size + 2) w1.heap.size N (w3.heap.size + 1) cL w4 _ K LL hNk (by omega) hnk HF4.out HL4.out HW.out HLn.out (inv5_start w4 0 (fun k => rfl)) ?_
    intro u21 u179 u180 u181 u182 u183 u184 u185 u186 u187 u188 u189 u190 u191 u192 u193 u194 u195 u196 u197 u198 u199 u200 u201 u202 u203 u204 u205 u206 u207 u208 u209 w5 hI5
    have HF5 : Hid (Fin2 w5 kb ko (w.heap.size + 1) (w1.heap.size + 2) w1.heap.size N K LL) := HF4.out.later hI5.below
    have HB5 : Hid (Below w.heap.size w w5) := HB4.out.trans (hI5.below.mono HB4.out.size)
    have HL5 : Hid (MapIs w5 (w3.heap.size + 1) (ixM (lng K LL N)) cL) := HL4.out.kept (hI5.below.block _ HL4.out.lt)
    have HP5 : Hid (MapIs w5 w3.heap.size (ixM (fst' K LL N)) (cnt K LL N)) := HP4.out.kept (hI5.below.block _ HP4.out.lt)
    obtain ⟨cB, _, hbm5⟩ := hI5.map
    have HQ5 : Hid (MapIs w5 w4.heap.size (boM (brk K LL N N)) cB) := hbm5
    clear HF4 HB4 HL4 HP4 hI5 hbm5
    go_upto_block 10 with fail
    refine loop6 _ (by kernel_rfl) kb ko _ ck (w.heap.size + 1) (w1.heap.size + 2) w1.heap.size N w3.heap.size (cnt K LL N) (w3.heap.size + 1) cL w4.heap.size cB w5 _ K LL hNk (by omega) hnk HF5.out HP5.out HL5.out HQ5.out HW.out HLn.out (inv5_start w5 0 (fun k => rfl)) ?_
    intro u4 u23 u24 u25 u26 u27 u28 u211 u212 u213 u214 u215 u216 u217 u218 u219 u220 u221 u222 u223 u224 u225 u226 u227 u228 u229 u230 u231 u232 u233 u234 u235 u236 u237 u238 u239 u240 u241 u242 u243 u244 u245 u246 u247 u248 u249 u250 u251 u252 u253 u254 u255 u256 u257 u258 u259 u260 u261 u262 u263 u264 u265 u266 u267 u268 u269 u270 u271 u272 u273 u274 u275 u276 u277 u278 u279 w6 hI6
    have HF6 : Hid (Fin2 w6 kb ko (w.heap.size + 1) (w1.heap.size + 2) w1.heap.size N K LL) := HF5.out.later hI6.below
    have HB6 : Hid (Below w.heap.size w w6) := HB5.out.trans (hI6.below.mono HB5.out.size)
    have HP6 : Hid (MapIs w6 w3.heap.size (ixM (fst' K LL N)) (cnt K LL N)) := HP5.out.kept (hI6.below.block _ HP5.out.lt)
    obtain ⟨cT, _, htm6⟩ := hI6.map
    have HT6 : Hid (MapIs w6 w5.heap.size (boM (mtc K LL N N)) cT) := htm6
    clear HF5 HB5 HL5 HP5 HQ5 hI6 htm6
    go_upto_block 12 with fail
    refine loop7 _ (by kernel_rfl) kb ko _ ck (w.heap.size + 1) (w1.heap.size + 2) w1.heap.size N w3.heap.size (cnt K LL N) w5.heap.size cT w6 K LL hNk (by omega) hnk HF6.out HP6.out HT6.out HW.out ?_
    intro u4 u29 u30 u31 u280 u281 u282 u283 u284 u285 u286 u287 u288 u289 u290 u291 u292 u293 u294 u295 u296 u297 u298 u299 u300 u301 u302 u303 
    obtain ⟨fn, hmp, _⟩ := HF6.out.map
    have hlen1 := fun ty => hmp.len Try.underlying26 ty
    have hlen2 := fun ty => HP6.out.len Try.underlying36 ty
    clear hmp
    go_wp2
    go_ret
    exact ⟨by simp, HB6.out⟩
end Go.Proofs.Qxb6617284a
