/-
  The law on After (function 5) where held is not Since.
-/
import Derived.Test.Qxb6617334aLaw
namespace Go.Proofs.Qxb6617334a
set_option linter.unusedVariables false
open Go.RowKit Go.Deep

/-- A version of four cells at the head of block g. -/
structure Box (w : World) (g : Nat) (h0 h1 h2 h3 : Int) : Prop where
  c0 : w.cell? ⟨g, 0, none⟩ = some (.int .u64 h0)
  c1 : w.cell? ⟨g, 1, none⟩ = some (.int .u64 h1)
  c2 : w.cell? ⟨g, 2, none⟩ = some (.int .u64 h2)
  c3 : w.cell? ⟨g, 3, none⟩ = some (.int .u64 h3)

theorem Box.on {w w' : World} {g : Nat} {h0 h1 h2 h3 : Int} (h : Box w g h0 h1 h2 h3) (hb : Below w.heap.size w w') : Box w' g h0 h1 h2 h3 := by
  have k : ∀ i v, w.cell? ⟨g, i, none⟩ = some v → w'.cell? ⟨g, i, none⟩ = some v := fun i v hv => (World.cell?_of_block (w := w) (w' := w') (a := ⟨g, i, none⟩) (hb.block _ (World.block_lt_of_cell? _ _ hv))).trans hv
  exact ⟨k _ _ h.c0, k _ _ h.c1, k _ _ h.c2, k _ _ h.c3⟩
theorem Box.made (w : World) (h0 h1 h2 h3 : Int) (ty : TypeId) : Box (w.alloc (.cells #[.int .u64 h0, .int .u64 h1, .int .u64 h2, .int .u64 h3] ty)) w.heap.size h0 h1 h2 h3 := by
  constructor
  all_goals
    rw [World.cell?_alloc_at _ ty _ _ rfl]
    rfl

/-- What stands through the law's loops. -/
structure Fin5 (w : World) (p q : Nat) (s0 s1 s2 s3 : Int) (a : Option Addr) (n c : Nat) (X : Nat → St) (h0 h1 h2 h3 : Int) (B V : Nat) (wi : World) : Prop where
  mid : Mid w p q s0 s1 s2 s3 a n c X wi
  held : Box wi B h0 h1 h2 h3
  hv : Box wi V h0 h1 h2 h3
theorem Fin5.on {w : World} {p q : Nat} {s0 s1 s2 s3 : Int} {a : Option Addr} {n c : Nat} {X : Nat → St} {h0 h1 h2 h3 : Int} {B V : Nat} {wi wj : World} (h : Fin5 w p q s0 s1 s2 s3 a n c X h0 h1 h2 h3 B V wi) (hb : Below wi.heap.size wi wj) : Fin5 w p q s0 s1 s2 s3 a n c X h0 h1 h2 h3 B V wj :=
  ⟨h.mid.on hb, h.held.on hb, h.hv.on hb⟩

/-- After's answer on the copy: the suffix behind the first match. -/
structure Suf (h0 h1 h2 h3 : Int) (n k : Nat) (X : Nat → St) (g : Nat) (A : Option Addr) (wi : World) : Prop where
  head : Head wi g 0 h0 h1 h2 h3 A (n - (k + 1)) (n - (k + 1))
  steps : 0 < n - (k + 1) → ∃ G, A = some ⟨G, (k + 1) * 10, none⟩ ∧ Steps wi G 0 n X
theorem Suf.on {h0 h1 h2 h3 : Int} {n k : Nat} {X : Nat → St} {g : Nat} {A : Option Addr} {wi wj : World} (h : Suf h0 h1 h2 h3 n k X g A wi) (hb : Below wi.heap.size wi wj) : Suf h0 h1 h2 h3 n k X g A wj := by
  refine ⟨h.head.kept (hb.block _ (World.block_lt_of_cell? _ _ h.head.h0)), fun h0 => ?_⟩
  obtain ⟨G, e, hS⟩ := h.steps h0
  exact ⟨G, e, hS.kept (hb.block _ (World.block_lt_of_cell? _ _ (hS 0 (by omega)).c0))⟩

theorem after_any {w : World} {p n : Nat} {s0 s1 s2 s3 h0 h1 h2 h3 : Int} {a : Option Addr} {X : Nat → St} (h : Head w p 0 s0 s1 s2 s3 a n n) (hX : 0 < n → ∃ G, a = some ⟨G, 0, none⟩ ∧ Steps w G 0 n X) (hn : n ≤ 16384) (hne : ev h0 h1 h2 h3 s0 s1 s2 s3 = false) :
    Calls Try.prog 13 #[.pointer (some ⟨p, 0, none⟩), .agg #[.int .u64 h0, .int .u64 h1, .int .u64 h2, .int .u64 h3]] w fun e w' => Below w.heap.size w w' ∧
      ((e = .returned (.tuple #[.pointer none, .bool false]) ∧ ∀ j, j < n → ev (X j).c (X j).cl (X j).b (X j).s h0 h1 h2 h3 = false) ∨
       ∃ k g A, k < n ∧ e = .returned (.tuple #[.pointer (some ⟨g, 0, none⟩), .bool true]) ∧ ev (X k).c (X k).cl (X k).b (X k).s h0 h1 h2 h3 = true ∧ (∀ j, j < k → ev (X j).c (X j).cl (X j).b (X j).s h0 h1 h2 h3 = false) ∧ Suf h0 h1 h2 h3 n k X g A w') := by
  by_cases h0n : 0 < n
  · obtain ⟨G, rfl, hS⟩ := hX h0n
    refine (after_some h hS hn hne).mono ?_
    rintro e w' ⟨hb, hh⟩
    refine ⟨hb, ?_⟩
    rcases hh with hh | ⟨k, g, A, hk, he, h1, h2, hH, hg, hA⟩
    · exact .inl hh
    · exact .inr ⟨k, g, A, hk, he, h1, h2, hH, fun hp => ⟨G, hA hp, hS.kept (hb.block _ (World.block_lt_of_cell? _ _ (hS 0 h0n).c0))⟩⟩
  · obtain rfl : n = 0 := by omega
    refine (after_none h hne).mono ?_
    rintro e w' ⟨rfl, hb⟩
    exact ⟨hb, .inl ⟨rfl, fun j hj => by omega⟩⟩

set_option maxRecDepth 100000 in
set_option maxHeartbeats 3200000 in
theorem law_ne {w : World} {p q : Nat} {s0 s1 s2 s3 h0 h1 h2 h3 : Int} {a : Option Addr} {n c : Nat} {X : Nat → St} (h : Mid w p q s0 s1 s2 s3 a n c X w) (hn : n ≤ 9223372036854775807) (hl : ∀ j, j < n → (X j).vl ≤ 9223372036854775807 ∧ (X j).rl ≤ 9223372036854775807)
    (hne : ev h0 h1 h2 h3 s0 s1 s2 s3 = false)
    (H12 : n ≤ 16384 → ∃ a', Calls Try.prog 12 #[.pointer (some ⟨p, q, none⟩)] w (WireQ w s0 s1 s2 s3 a' n X)) :
    Calls Try.prog 5 #[.pointer (some ⟨p, q, none⟩), .int .u64 h0, .int .u64 h1, .int .u64 h2, .int .u64 h3] w fun e w' => e = .returned (.bool true) ∧ Below w.heap.size w w' := by
  have H10 := hidIt (bytes_full h.head h.steps hn hl h0 h1 h2 h3)
  have H11 := hidIt (big_full h.head h.steps hn hl)
  have HM := hidIt h
  have HW := hidIt H12
  have HNE := hidIt hne
  clear h hl H12 hne
  go_enter Try.func5, Try.ntmps5
  go_upto_region 5 with (first | (go_at_call 10; refine H10.out.mono ?_; rintro e w1 ⟨⟨r, rfl, hr⟩, hw1⟩; have hw2 := hw1.symm; clear hw1; subst hw2; clear hr; cases r) | (go_at_call 11; refine H11.out.mono ?_; rintro e w1 ⟨⟨r, rfl, hr⟩, hw1⟩; have hw2 := hw1.symm; clear hw1; subst hw2; have HN := hidIt hr; clear hr; cases r))
  · go_ret
    exact ⟨rfl, Below.refl _ _⟩
  rotate_left
  · go_ret
    exact ⟨rfl, Below.refl _ _⟩
  have hN : n ≤ 16384 := HN.out trivial
  obtain ⟨a', H12⟩ := HW.out hN
  have H12' := hidIt H12
  clear H12 HW H10 H11 HN
  go_wp2_with fail
  refine H12'.out.mono ?_
  rintro e w1 ⟨g, rfl, hb1, hg, hH, hS⟩
  have HM1 := hidIt (HM.out.on hb1)
  have HH1 := hidIt hH
  have HS1 : Hid (0 < n → ∃ G, a' = some ⟨G, 0, none⟩ ∧ Steps w1 G 0 n X) := hidIt (fun h0 => let ⟨G, e, _, hG⟩ := hS h0; ⟨G, e, hG⟩)
  clear hb1 hH hS H12' HM
  go_wp2_with fail
  refine (mk_b h0 h1 h2 h3 _).mono ?_
  rintro e w2 ⟨rfl, hb2⟩
  have HM2 := hidIt (HM1.out.on hb2)
  have HH2 := hidIt (HH1.out.kept (hb2.block _ (World.block_lt_of_cell? _ _ HH1.out.h0)))
  have HS2 : Hid (0 < n → ∃ G, a' = some ⟨G, 0, none⟩ ∧ Steps w2 G 0 n X) := hidIt (fun h0 => let ⟨G, e, hG⟩ := HS1.out h0; ⟨G, e, hG.kept (hb2.block _ (World.block_lt_of_cell? _ _ (hG 0 h0).c0))⟩)
  clear hb2 HM1 HH1 HS1
  go_wp2_with fail
  have hb3 := below_alloc w2 (.cells #[.int .u64 h0, .int .u64 h1, .int .u64 h2, .int .u64 h3] 24)
  have HM3 := hidIt (HM2.out.on hb3)
  have HH3 := hidIt (HH2.out.kept (hb3.block _ (World.block_lt_of_cell? _ _ HH2.out.h0)))
  have HS3 : Hid (0 < n → ∃ G, a' = some ⟨G, 0, none⟩ ∧ Steps (w2.alloc (.cells #[.int .u64 h0, .int .u64 h1, .int .u64 h2, .int .u64 h3] 24)) G 0 n X) := hidIt (fun h0 => let ⟨G, e, hG⟩ := HS2.out h0; ⟨G, e, hG.kept (hb3.block _ (World.block_lt_of_cell? _ _ (hG 0 h0).c0))⟩)
  have HB3 := hidIt (Box.made w2 h0 h1 h2 h3 24)
  clear HM2 HH2 HS2 hb3
  refine (after_any HH3.out HS3.out hN HNE.out).mono ?_
  rintro e w4 ⟨hb4, hend⟩
  have HM4 := hidIt (HM3.out.on hb4)
  have HB4 := hidIt (HB3.out.on hb4)
  generalize w2.heap.size = B at *
  clear hb4 HM3 HH3 HS3 HB3
  obtain ⟨d0, d1, d2, d3, d4⟩ := HM4.out.head
  have hpl : p < w4.heap.size := World.block_lt_of_cell? _ _ d0
  have k2 : ∀ i v o', w4.cell? ⟨p, i, none⟩ = some v → (w4.alloc o').cell? ⟨p, i, none⟩ = some v := fun i v o' hv => (World.cell?_alloc_lt _ _ _ hpl).trans hv
  have e0 := fun o' => k2 _ _ o' d0
  have e1 := fun o' => k2 _ _ o' d1
  have e2 := fun o' => k2 _ _ o' d2
  have e3 := fun o' => k2 _ _ o' d3
  have e35 := eq35 h0 h1 h2 h3 s0 s1 s2 s3
  rw [HNE.out] at e35
  have HF : Hid (Fin5 w p q s0 s1 s2 s3 a n c X h0 h1 h2 h3 B w4.heap.size (w4.alloc (.cells #[.int .u64 h0, .int .u64 h1, .int .u64 h2, .int .u64 h3] 35))) := hidIt ⟨HM4.out.on (below_alloc _ _), HB4.out.on (below_alloc _ _), Box.made _ _ _ _ _ _⟩
  clear d0 d1 d2 d3 d4 k2 HM4 HB4
  rcases hend with ⟨rfl, hno⟩ | ⟨k, g', A, hk, rfl, hyes, hfirst, hsuf⟩
  · have HNO := hidIt hno
    clear hno
    go_upto_region 11 with fail
    go_quiet (fail)
    go_wp2
    clear e0 e1 e2 e3 e35
    go_loopw [16, 17] (fun f i wr => ∃ k : Nat, k ≤ n ∧ i = .int .i64 k ∧ f = .bool false ∧ Hid (Fin5 w p q s0 s1 s2 s3 a n c X h0 h1 h2 h3 B w4.heap.size wr)) (fun _ i _ => n - (intOf i).toNat)
    case atStart => exact ⟨0, Nat.zero_le _, rfl, rfl, hidIt (HF.out.on (below_drew _ _))⟩
    case round =>
      obtain ⟨k, hk, rfl, rfl, HR⟩ := hrel
      clear HF
      have r4 := HR.out.mid.head.h4
      by_cases hlt : k < n
      · obtain ⟨b, o, rfl, hS⟩ := HR.out.mid.steps (by omega)
        obtain ⟨x0, x1, x2, x3, _⟩ := hS k hlt
        obtain ⟨v0, v1, v2, v3⟩ := HR.out.hv
        have e35 := eq35 (X k).c (X k).cl (X k).b (X k).s h0 h1 h2 h3
        rw [HNO.out k hlt] at e35
        clear hS
        generalize (X k).c = y0 at *
        generalize (X k).cl = y1 at *
        generalize (X k).b = y2 at *
        generalize (X k).s = y3 at *
        go_wp2_with fail
        go_quiet (fail)
        go_wp2
        go_roundw
        case rel => exact ⟨k + 1, by omega, by go_num, rfl, hidIt (HR.out.on (below_drew _ _))⟩
        case measure => simp [intOf]; omega
      · obtain rfl : n = k := by omega
        go_wp2
        go_ret
        exact ⟨rfl, HR.out.mid.bel⟩
  · have HY := hidIt hyes
    have HFI := hidIt hfirst
    have HSU := hidIt (hsuf.on (below_alloc w4 (.cells #[.int .u64 h0, .int .u64 h1, .int .u64 h2, .int .u64 h3] 35)))
    clear hyes hfirst hsuf
    go_upto_region 11 with fail
    go_quiet (fail)
    go_wp2
    clear e0 e1 e2 e3 e35
    go_loopw [16, 17] (fun f i wr => ∃ (j : Nat) (r : Bool), j ≤ n ∧ i = .int .i64 j ∧ f = .bool r ∧ Hid (k < j → r = true) ∧ Hid (Fin5 w p q s0 s1 s2 s3 a n c X h0 h1 h2 h3 B w4.heap.size wr) ∧ Hid (Suf h0 h1 h2 h3 n k X g' A wr)) (fun _ i _ => n - (intOf i).toNat)
    case atStart => exact ⟨0, false, Nat.zero_le _, rfl, rfl, hidIt (fun h => by omega), hidIt (HF.out.on (below_drew _ _)), hidIt (HSU.out.on (below_drew _ _))⟩
    case round =>
      obtain ⟨j, r, hj, rfl, rfl, HRR, HR, HSR⟩ := hrel
      clear HF HSU
      have r4 := HR.out.mid.head.h4
      by_cases hlt : j < n
      · obtain ⟨b, o, rfl, hS⟩ := HR.out.mid.steps (by omega)
        obtain ⟨x0, x1, x2, x3, _⟩ := hS j hlt
        obtain ⟨v0, v1, v2, v3⟩ := HR.out.hv
        have e35 := eq35 (X j).c (X j).cl (X j).b (X j).s h0 h1 h2 h3
        obtain ⟨t, ht⟩ : ∃ t, t = ev (X j).c (X j).cl (X j).b (X j).s h0 h1 h2 h3 := ⟨_, rfl⟩
        rw [← ht] at e35
        have HT := hidIt ht
        clear hS ht
        obtain ⟨x, hx⟩ : ∃ x, x = X j := ⟨_, rfl⟩
        rw [← hx] at x0 x1 x2 x3 e35
        have HXj := hidIt hx
        clear hx
        obtain ⟨y0, y1, y2, y3, _⟩ := x
        simp only at x0 x1 x2 x3 e35
        go_wp2_with fail
        cases t
        · go_quiet (fail)
          go_wp2
          go_roundw
          case rel => exact ⟨j + 1, r, by omega, by go_num, rfl, hidIt (fun hkj => HRR.out (by
            by_cases hjk : k = j
            · subst hjk
              have := HT.out.trans HY.out
              cases this
            · omega)), hidIt (HR.out.on (below_drew _ _)), hidIt (HSR.out.on (below_drew _ _))⟩
          case measure => simp [intOf]; omega
        · go_quiet (fail)
          go_wp2
          go_roundw
          case rel => exact ⟨j + 1, true, by omega, by go_num, rfl, hidIt (fun _ => rfl), hidIt (HR.out.on (below_drew _ _)), hidIt (HSR.out.on (below_drew _ _))⟩
          case measure => simp [intOf]; omega
      · obtain rfl : n = j := by omega
        obtain rfl : r = true := HRR.out hk
        obtain ⟨m, hm⟩ : ∃ m, m = n - (k + 1) := ⟨_, rfl⟩
        have hnm : n = m + (k + 1) := by omega
        obtain ⟨b, o, rfl, hS⟩ := HR.out.mid.steps (by omega)
        obtain ⟨g0, g1, g2, g3, g4⟩ := HSR.out.head
        rw [← hm] at g4
        simp only [Nat.zero_add] at g1 g2 g3 g4
        have HNM := hidIt hnm
        have hmn : m ≤ 16384 := by omega
        have hmn1 : m < n := by omega
        clear hm hnm hS
        obtain ⟨u0, u1, u2, u3⟩ := HR.out.held
        have n24 := ne24 h0 h1 h2 h3 h0 h1 h2 h3
        rw [ev_self, Bool.not_true] at n24
        go_upto_region 21 with fail
        go_quiet (fail)
        go_upto_region 23 with fail
        go_quiet (fail)
        go_upto_region 26 with fail
        clear g0 g1 g2 g3 g4 u0 u1 u2 u3 n24
        have hk1 : (n : Int) - (m : Int) = (k : Int) + 1 := by have := HNM.out; omega
        rw [hk1]
        clear hk1
        obtain ⟨_, _, hba, hS⟩ := HR.out.mid.steps (by omega)
        cases hba
        obtain ⟨x0, x1, x2, x3, _⟩ := hS k hk
        obtain ⟨v0, v1, v2, v3⟩ := HR.out.hv
        have e35 := ne35 (X k).c (X k).cl (X k).b (X k).s h0 h1 h2 h3
        rw [HY.out, Bool.not_true] at e35
        have k1 : (k : Int) + 1 - 1 = (k : Int) := by omega
        clear hS
        generalize (X k).c = y0 at *
        generalize (X k).cl = y1 at *
        generalize (X k).b = y2 at *
        generalize (X k).s = y3 at *
        go_quiet (fail)
        go_wp2
        clear x0 x1 x2 x3 v0 v1 v2 v3 e35 k1 r4
        go_loopw [19] (fun i wr => ∃ (j : Nat), j ≤ k ∧ i = .int .i64 j ∧ Hid (Fin5 w p q s0 s1 s2 s3 (some ⟨b, o, none⟩) n c X h0 h1 h2 h3 B w4.heap.size wr) ∧ Hid (Suf h0 h1 h2 h3 n k X g' A wr)) (fun i _ => k - (intOf i).toNat)
        case atStart => exact ⟨0, Nat.zero_le _, rfl, hidIt (HR.out.on (below_drew _ _)), hidIt (HSR.out.on (below_drew _ _))⟩
        case round =>
          clear HR HSR
          obtain ⟨j, hj, rfl, HR, HSR⟩ := hrel
          have r4 := HR.out.mid.head.h4
          by_cases hlt : j < k
          · obtain ⟨_, _, hba, hS⟩ := HR.out.mid.steps (by omega)
            cases hba
            obtain ⟨x0, x1, x2, x3, _⟩ := hS j (by omega)
            obtain ⟨v0, v1, v2, v3⟩ := HR.out.hv
            have e35 := eq35 (X j).c (X j).cl (X j).b (X j).s h0 h1 h2 h3
            rw [HFI.out j hlt] at e35
            clear hS
            generalize (X j).c = y0 at *
            generalize (X j).cl = y1 at *
            generalize (X j).b = y2 at *
            generalize (X j).s = y3 at *
            go_wp2_with fail
            go_quiet (fail)
            go_wp2
            go_roundw
            case rel => exact ⟨j + 1, by omega, by go_num, hidIt (HR.out.on (below_drew _ _)), hidIt (HSR.out.on (below_drew _ _))⟩
            case measure => simp [intOf]; omega
          · obtain rfl : k = j := by omega
            go_wp2
            go_loopw [20] (fun i wr => ∃ (t : Nat), t ≤ m ∧ i = .int .i64 t ∧ Hid (Fin5 w p q s0 s1 s2 s3 (some ⟨b, o, none⟩) n c X h0 h1 h2 h3 B w4.heap.size wr) ∧ Hid (Suf h0 h1 h2 h3 n k X g' A wr)) (fun i _ => m - (intOf i).toNat)
            case atStart => exact ⟨0, Nat.zero_le _, rfl, HR, HSR⟩
            case round =>
              clear HR HSR r4
              obtain ⟨t, ht, rfl, HR, HSR⟩ := hrel
              have r4 := HR.out.mid.head.h4
              have g4 := HSR.out.head.h4
              have hm : n - (k + 1) = m := by have := HNM.out; omega
              rw [hm, Nat.zero_add] at g4
              by_cases hlt : t < m
              · obtain ⟨_, _, hba, hS⟩ := HR.out.mid.steps (by omega)
                cases hba
                obtain ⟨G, hA, hG⟩ := HSR.out.steps (by omega)
                subst hA
                have hb := hS (k + 1 + t) (by omega)
                have hg := hG (k + 1 + t) (by omega)
                have hR := HR.out.mid.bytes (k + 1 + t) (by omega)
                rw [show 0 + (k + 1 + t) * 10 = (k + 1) * 10 + t * 10 by omega] at hg
                clear hS hG hm
                have HC := hidIt (fun u => step_same (w := wr.drewN u) (X (k + 1 + t)) (hR.1.on (below_drew _ _)) (hR.2.on (below_drew _ _)))
                clear hR
                generalize X (k + 1 + t) = x at hb hg HC
                obtain ⟨y0, y1, y2, y3, y4, y5, y6, y7, ya, yl, yc, za, zl, zc⟩ := x
                obtain ⟨x0, x1, x2, x3, x4, x5, x6, x7, x8, x9⟩ := hb
                obtain ⟨z0, z1, z2, z3, z4, z5, z6, z7, z8, z9⟩ := hg
                simp only at x0 x1 x2 x3 x4 x5 x6 x7 x8 x9 z0 z1 z2 z3 z4 z5 z6 z7 z8 z9
                have sp : p < wr.heap.size := World.block_lt_of_cell? _ _ r4
                have sg : g' < wr.heap.size := World.block_lt_of_cell? _ _ g4
                have sb : b < wr.heap.size := World.block_lt_of_cell? _ _ x0
                have sG : G < wr.heap.size := World.block_lt_of_cell? _ _ z0
                have i1 : IntKind.i64.wrap ((k : Int) + 1 + (t : Int)) = (k : Int) + 1 + (t : Int) := by rw [IntKind.wrap_i64]; omega
                have i2 : (0 : Int) ≤ (k : Int) + 1 + (t : Int) := by omega
                have i3 : (k : Int) + 1 + (t : Int) < (n : Int) := by have := HNM.out; omega
                have i4 : ((k : Int) + 1 + (t : Int)).toNat = k + 1 + t := by omega
                go_wp2_with fail
                go_region_held3 (fun wz => wz.cell? ⟨p, q + 4, none⟩ = some (.slice (some ⟨b, o, none⟩) n c) ∧ wz.cell? ⟨g', 4, none⟩ = some (.slice (some ⟨G, (k + 1) * 10, none⟩) m m) ∧ wz.cell? ⟨b, o + (k + 1 + t) * 10, none⟩ = some (.int .u64 y0) ∧ wz.cell? ⟨b, o + (k + 1 + t) * 10 + 1, none⟩ = some (.int .u64 y1) ∧ wz.cell? ⟨b, o + (k + 1 + t) * 10 + 2, none⟩ = some (.int .u64 y2) ∧ wz.cell? ⟨b, o + (k + 1 + t) * 10 + 3, none⟩ = some (.int .u64 y3) ∧ wz.cell? ⟨b, o + (k + 1 + t) * 10 + 4, none⟩ = some (.int .u64 y4) ∧ wz.cell? ⟨b, o + (k + 1 + t) * 10 + 5, none⟩ = some (.int .u64 y5) ∧ wz.cell? ⟨b, o + (k + 1 + t) * 10 + 6, none⟩ = some (.int .u64 y6) ∧ wz.cell? ⟨b, o + (k + 1 + t) * 10 + 7, none⟩ = some (.int .u8 y7) ∧ wz.cell? ⟨b, o + (k + 1 + t) * 10 + 8, none⟩ = some (.slice ya yl yc) ∧ wz.cell? ⟨b, o + (k + 1 + t) * 10 + 9, none⟩ = some (.slice za zl zc) ∧ wz.cell? ⟨G, (k + 1) * 10 + t * 10, none⟩ = some (.int .u64 y0) ∧ wz.cell? ⟨G, (k + 1) * 10 + t * 10 + 1, none⟩ = some (.int .u64 y1) ∧ wz.cell? ⟨G, (k + 1) * 10 + t * 10 + 2, none⟩ = some (.int .u64 y2) ∧ wz.cell? ⟨G, (k + 1) * 10 + t * 10 + 3, none⟩ = some (.int .u64 y3) ∧ wz.cell? ⟨G, (k + 1) * 10 + t * 10 + 4, none⟩ = some (.int .u64 y4) ∧ wz.cell? ⟨G, (k + 1) * 10 + t * 10 + 5, none⟩ = some (.int .u64 y5) ∧ wz.cell? ⟨G, (k + 1) * 10 + t * 10 + 6, none⟩ = some (.int .u64 y6) ∧ wz.cell? ⟨G, (k + 1) * 10 + t * 10 + 7, none⟩ = some (.int .u8 y7) ∧ wz.cell? ⟨G, (k + 1) * 10 + t * 10 + 8, none⟩ = some (.slice ya yl yc) ∧ wz.cell? ⟨G, (k + 1) * 10 + t * 10 + 9, none⟩ = some (.slice za zl zc)) (go_keep) (first | (go_at_call 14; refine (HC.out _).mono ?_; rintro e w1 ⟨rfl, hb1⟩; have k1 : ∀ i, w1.cell? ⟨p, i, none⟩ = wr.cell? ⟨p, i, none⟩ := fun i => World.cell?_of_block (hb1.block _ sp); have k2 : ∀ i, w1.cell? ⟨g', i, none⟩ = wr.cell? ⟨g', i, none⟩ := fun i => World.cell?_of_block (hb1.block _ sg); have k3 : ∀ i, w1.cell? ⟨b, i, none⟩ = wr.cell? ⟨b, i, none⟩ := fun i => World.cell?_of_block (hb1.block _ sb); have k4 : ∀ i, w1.cell? ⟨G, i, none⟩ = wr.cell? ⟨G, i, none⟩ := fun i => World.cell?_of_block (hb1.block _ sG); have HB1 := hidIt hb1; clear hb1))
                all_goals
                  clear x0 x1 x2 x3 x4 x5 x6 x7 x8 x9 z0 z1 z2 z3 z4 z5 z6 z7 z8 z9
                  go_wp2_with fail
                  go_roundw
                  case rel => exact ⟨t + 1, by omega, by go_num, hidIt (HR.out.on ⟨HB1.out.os, HB1.out.tape, HB1.out.output, HB1.out.size, HB1.out.block⟩), hidIt (HSR.out.on ⟨HB1.out.os, HB1.out.tape, HB1.out.output, HB1.out.size, HB1.out.block⟩)⟩
                  case measure => simp [intOf]; omega
              · obtain rfl : m = t := by omega
                go_wp2
                go_ret
                exact ⟨rfl, HR.out.mid.bel⟩

end Go.Proofs.Qxb6617334a
