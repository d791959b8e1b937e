/-
  The law on After (function 5), walked whole.
-/
import Derived.Test.Qxb6617334aNone
import Derived.LaidEqlPtr
namespace Go.Proofs.Qxb6617334a
set_option linter.unusedVariables false
open Go.RowKit Go.Deep

theorem Try.info44 : (Try.prog.info? 44).isSome = true := by kernel_rfl
theorem p31 (a : Addr) (w : World) : (binOp .eql 31 (.pointer (some a)) (.pointer (some a))).run Try.prog w = .ok (.bool true) w := by
  obtain ⟨j, hj⟩ := Option.isSome_iff_exists.1 Try.info44
  exact run_eql_ptr_same w a Try.underlying31 hj

theorem mk_b (c cl b s : Int) (w : World) : Calls Try.prog 7 #[.int .u64 c, .int .u64 cl, .int .u64 b, .int .u64 s] w fun e w' => e = .returned (.agg #[.int .u64 c, .int .u64 cl, .int .u64 b, .int .u64 s]) ∧ Below w.heap.size w w' := by
  refine (mk_any c cl b s w).mono ?_
  rintro e w' ⟨rfl, rfl⟩
  exact ⟨rfl, below_alloc _ _⟩

set_option maxRecDepth 100000 in
set_option maxHeartbeats 1600000 in
theorem law_nil (h0 h1 h2 h3 : Int) (w : World) : Calls Try.prog 5 #[.pointer none, .int .u64 h0, .int .u64 h1, .int .u64 h2, .int .u64 h3] w fun e w' => e = .returned (.bool true) ∧ Below w.heap.size w w' := by
  have H10 := hidIt (bytes_nil w h0 h1 h2 h3)
  have H11 := hidIt (big_nil w)
  have H12 := hidIt (wire_nil w)
  have H7 := hidIt (mk_any h0 h1 h2 h3 w)
  go_enter Try.func5, Try.ntmps5
  go_upto_region 7 with (first | (go_at_call 10; refine H10.out.mono ?_; rintro e w1 ⟨⟨r, rfl, hr⟩, hw1⟩; have hw2 := hw1.symm; clear hw1; subst hw2; clear hr; cases r) | (go_at_call 11; refine H11.out.mono ?_; rintro e w1 ⟨rfl, hw1⟩; have hw2 := hw1.symm; clear hw1; subst hw2) | (go_at_call 12; refine H12.out.mono ?_; rintro e w1 ⟨rfl, hw1⟩; have hw2 := hw1.symm; clear hw1; subst hw2) | (go_at_call 7; refine H7.out.mono ?_; rintro e w1 ⟨rfl, rfl⟩))
  · go_ret
    exact ⟨rfl, Below.refl _ _⟩
  clear H10 H11 H12 H7
  go_wp2_with fail
  refine (after_nil h0 h1 h2 h3 _).mono ?_
  rintro e w3 ⟨rfl, hb3⟩
  have HB3 := hidIt hb3
  clear hb3
  go_wp2
  go_ret
  refine ⟨rfl, ?_⟩
  exact ((below_alloc w _).trans ((below_alloc _ _).mono (by simp))).trans (HB3.out.mono (by simp; omega))

/-- What stands behind After: the argument's struct and steps, the variables held and hv. -/
structure Mid (w : World) (p q : Nat) (s0 s1 s2 s3 : Int) (a : Option Addr) (n c : Nat) (X : Nat → St) (wi : World) : Prop where
  bel : Below w.heap.size w wi
  head : Head wi p q s0 s1 s2 s3 a n c
  steps : 0 < n → ∃ b o, a = some ⟨b, o, none⟩ ∧ Steps wi b o n X
  bytes : ∀ j, j < n → Rdb wi (X j).va (X j).vl ∧ Rdb wi (X j).ra (X j).rl

theorem Mid.on {w : World} {p q : Nat} {s0 s1 s2 s3 : Int} {a : Option Addr} {n c : Nat} {X : Nat → St} {wi wj : World} (h : Mid w p q s0 s1 s2 s3 a n c X wi) (hb : Below wi.heap.size wi wj) : Mid w p q s0 s1 s2 s3 a n c X wj := by
  refine ⟨h.bel.trans (hb.mono h.bel.size), h.head.kept (hb.block _ (World.block_lt_of_cell? _ _ h.head.h0)), fun h0 => ?_, fun j hj => ⟨(h.bytes j hj).1.on hb, (h.bytes j hj).2.on hb⟩⟩
  obtain ⟨b, o, e, hS⟩ := h.steps h0
  exact ⟨b, o, e, hS.kept (hb.block _ (World.block_lt_of_cell? _ _ (hS 0 h0).c0))⟩

set_option maxRecDepth 100000 in
set_option maxHeartbeats 1600000 in
theorem law_since {w : World} {p q : Nat} {h0 h1 h2 h3 : Int} {a : Option Addr} {n c : Nat} {X : Nat → St} (h : Mid w p q h0 h1 h2 h3 a n c X w) (hn : n ≤ 9223372036854775807) (hl : ∀ j, j < n → (X j).vl ≤ 9223372036854775807 ∧ (X j).rl ≤ 9223372036854775807)
    (H12 : n ≤ 16384 → ∃ a', Calls Try.prog 12 #[.pointer (some ⟨p, q, none⟩)] w (WireQ w h0 h1 h2 h3 a' n X)) :
    Calls Try.prog 5 #[.pointer (some ⟨p, q, none⟩), .int .u64 h0, .int .u64 h1, .int .u64 h2, .int .u64 h3] w fun e w' => e = .returned (.bool true) ∧ Below w.heap.size w w' := by
  have H10 := hidIt (bytes_full h.head h.steps hn hl h0 h1 h2 h3)
  have H11 := hidIt (big_full h.head h.steps hn hl)
  have HM := hidIt h
  have HW := hidIt H12
  clear h hl H12
  go_enter Try.func5, Try.ntmps5
  go_upto_region 5 with (first | (go_at_call 10; refine H10.out.mono ?_; rintro e w1 ⟨⟨r, rfl, hr⟩, hw1⟩; have hw2 := hw1.symm; clear hw1; subst hw2; clear hr; cases r) | (go_at_call 11; refine H11.out.mono ?_; rintro e w1 ⟨⟨r, rfl, hr⟩, hw1⟩; have hw2 := hw1.symm; clear hw1; subst hw2; have HN := hidIt hr; clear hr; cases r))
  · go_ret
    exact ⟨rfl, Below.refl _ _⟩
  rotate_left
  · go_ret
    exact ⟨rfl, Below.refl _ _⟩
  obtain ⟨a', H12⟩ := HW.out (HN.out trivial)
  have H12' := hidIt H12
  clear H12 HW H10 H11 HN
  go_wp2_with fail
  refine H12'.out.mono ?_
  rintro e w1 ⟨g, rfl, hb1, hg, hH, hS⟩
  have HM1 := hidIt (HM.out.on hb1)
  have HH1 := hidIt hH
  clear hb1 hH hS H12' HM
  go_wp2_with fail
  refine (mk_b h0 h1 h2 h3 _).mono ?_
  rintro e w2 ⟨rfl, hb2⟩
  have HM2 := hidIt (HM1.out.on hb2)
  have HH2 := hidIt (HH1.out.kept (hb2.block _ (World.block_lt_of_cell? _ _ HH1.out.h0)))
  clear hb2 HM1 HH1
  go_wp2_with fail
  have HM3 := hidIt (HM2.out.on (below_alloc w2 (.cells #[.int .u64 h0, .int .u64 h1, .int .u64 h2, .int .u64 h3] 24)))
  have HH3 := hidIt (HH2.out.kept (Below.heap_alloc w2 (.cells #[.int .u64 h0, .int .u64 h1, .int .u64 h2, .int .u64 h3] 24) _ (World.block_lt_of_cell? _ _ HH2.out.h0)))
  clear HM2 HH2
  refine (after_since HH3.out).mono ?_
  rintro e w4 ⟨rfl, hb4⟩
  have HM4 := hidIt (HM3.out.on hb4)
  clear hb4 HM3 HH3
  obtain ⟨d0, d1, d2, d3, d4⟩ := HM4.out.head
  have hpl : p < w4.heap.size := World.block_lt_of_cell? _ _ d0
  have k2 : ∀ i v o', w4.cell? ⟨p, i, none⟩ = some v → (w4.alloc o').cell? ⟨p, i, none⟩ = some v := fun i v o' hv => (World.cell?_alloc_lt _ _ _ hpl).trans hv
  have e0 := fun o' => k2 _ _ o' d0
  have e1 := fun o' => k2 _ _ o' d1
  have e2 := fun o' => k2 _ _ o' d2
  have e3 := fun o' => k2 _ _ o' d3
  have p31 := p31 ⟨g, 0, none⟩
  have e35 := eq35 h0 h1 h2 h3 h0 h1 h2 h3
  rw [ev_self] at e35
  clear d0 d1 d2 d3 d4 k2
  go_upto_region 11 with fail
  go_quiet (fail)
  go_wp2
  go_ret
  refine ⟨rfl, ?_⟩
  exact (HM4.out.on ((below_alloc w4 _).trans ((below_drew _ _).mono (by simp)))).bel

end Go.Proofs.Qxb6617334a
