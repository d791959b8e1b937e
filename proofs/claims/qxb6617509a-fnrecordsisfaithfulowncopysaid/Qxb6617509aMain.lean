/-
  The law on Records (function 3), walked whole.
-/
import Derived.Test.Qxb6617509aClone
namespace Go.Proofs.Qxb6617509a
set_option linter.unusedVariables false
open Go.RowKit Go.Deep

theorem n22 : ∀ (w : World) (a : Option Addr) (n c : Nat), (binOp .neq 22 (.slice a n c) (.slice none 0 0)).run Try.prog w = .ok (.bool (!a.isNone)) w := fun w a n c => run_neq_slice_nil_any w 22 25 a n c 0 0 Try.underlying22

theorem below_drew (w : World) (n : Nat) : Below w.heap.size w (w.drewN n) := ⟨rfl, rfl, rfl, Nat.le_refl _, fun _ _ => rfl⟩

/-- What the writing loop leaves: the row in block g still holds records; all else is as it was. -/
structure ModInv (w : World) (g n : Nat) (k : Nat) (wr : World) : Prop where
  bel : Below 0 w wr
  size : wr.heap.size = w.heap.size
  oth : ∀ b, b ≠ g → wr.heap[b]? = w.heap[b]?
  wri : wr.there g 0 (n * 2)
  got : ∃ S N, RecsAt wr g 0 n S N ∧ ∀ j, k ≤ j → j < n → (S j).size ≤ 1048576

theorem ModInv.step {w : World} {g n k : Nat} {wr : World} (h : ModInv w g n k wr) (hk : k < n) (x : ByteArray) (y : Int) : ModInv w g n (k + 1) ((wr.setCell ⟨g, k * 2, none⟩ (.string x)).setCell ⟨g, k * 2 + 1, none⟩ (.int .i64 y)) := by
  have ho : ∀ b, b ≠ g → (wr.setCells g (k * 2) [.string x, .int .i64 y]).heap[b]? = wr.heap[b]? := fun b hb =>
    (Below.heap_setCell _ _ _ _ hb).trans (Below.heap_setCell _ _ _ _ hb)
  have hs : (wr.setCells g (k * 2) [.string x, .int .i64 y]).heap.size = wr.heap.size := by simp [World.setCells]
  have hth : ∀ i, i < [Value.string x, .int .i64 y].length → (wr.cell? ⟨g, k * 2 + i, none⟩).isSome = true := fun i hi => by
    have := (h.wri (k * 2 + i) (by simp at hi; omega)).1
    rwa [Nat.zero_add] at this
  obtain ⟨S, N, hR, hS⟩ := h.got
  refine ⟨⟨h.bel.os, h.bel.tape, h.bel.output, by have := h.bel.size; show w.heap.size ≤ (wr.setCells g (k * 2) [.string x, .int .i64 y]).heap.size; omega, fun b hb => by omega⟩, hs.trans h.size, fun b hb => (ho b hb).trans (h.oth b hb), World.there_setCells h.wri g (k * 2) [.string x, .int .i64 y],
    fun j => if j = k then x else S j, fun j => if j = k then y else N j, fun j hj => ?_, fun j h1 h2 => ?_⟩
  · show (wr.setCells g (k * 2) [.string x, .int .i64 y]).cell? _ = _ ∧ (wr.setCells g (k * 2) [.string x, .int .i64 y]).cell? _ = _
    by_cases hjk : j = k
    · subst hjk
      dsimp only; rw [if_pos rfl, if_pos rfl]
      constructor
      · have := World.cell?_setCells_in g [Value.string x, .int .i64 y] (j * 2) wr hth 0 (by simp)
        simpa using this
      · have := World.cell?_setCells_in g [Value.string x, .int .i64 y] (j * 2) wr hth 1 (by simp)
        simpa using this
    · dsimp only; rw [if_neg hjk, if_neg hjk]
      obtain ⟨h1, h2⟩ := hR j hj
      constructor
      · rw [← h1]; exact World.cell?_setCells_out _ _ _ _ _ (fun _ _ => by show 0 + j * 2 < k * 2 ∨ k * 2 + 2 ≤ 0 + j * 2; omega)
      · rw [← h2]; exact World.cell?_setCells_out _ _ _ _ _ (fun _ _ => by show 0 + j * 2 + 1 < k * 2 ∨ k * 2 + 2 ≤ 0 + j * 2 + 1; omega)
  · dsimp only; rw [if_neg (by omega)]
    exact hS j (by omega) h2

/-- The state ahead of the writing loop. -/
structure Mid (w : World) (n : Nat) (S : Nat → ByteArray) (N : Nat → Int) (W I X : Nat) (w' : World) : Prop where
  bel : Below w.heap.size w w'
  hW : w.heap.size ≤ W
  want : RecsAt w' W 0 n S N
  inn : RecsAt w' I 0 n S N
  idx : w'.cell? ⟨X, 1034, none⟩ = some (.slice (some ⟨I, 0, none⟩) n n)
  ltW : W < w'.heap.size
  ltI : I < w'.heap.size
  ltX : X < w'.heap.size

theorem mid_of {w w1 w2 w3 : World} {n : Nat} {S : Nat → ByteArray} {N : Nat → Int} (h1 : CopyInv w n S N n w1) (h2 : CopyInv w1 n S N n w2) (hb : Below w2.heap.size w2 w3) (hs : w3.heap.size = w2.heap.size + 1)
    (hc : w3.cell? ⟨w2.heap.size, 1034, none⟩ = some (.slice (some ⟨w1.heap.size, 0, none⟩) n n)) : Mid w n S N w.heap.size w1.heap.size w2.heap.size w3 := by
  have e1 := h1.size
  have e2 := h2.size
  refine ⟨?_, Nat.le_refl _, ?_, ?_, hc, by omega, by omega, by omega⟩
  · exact (h1.bel.trans (h2.bel.mono (by omega))).trans (hb.mono (by omega))
  · exact h1.got.kept ((hb.block _ (by omega)).trans (h2.bel.block _ (by omega)))
  · exact h2.got.kept (hb.block _ (by omega))

theorem Mid.on {w : World} {n : Nat} {S : Nat → ByteArray} {N : Nat → Int} {W I X : Nat} {w1 w2 : World} (h : Mid w n S N W I X w1) (hb : Below w1.heap.size w1 w2) : Mid w n S N W I X w2 :=
  ⟨h.bel.trans (hb.mono (by have := h.bel.size; omega)), h.hW, h.want.kept (hb.block _ h.ltW), h.inn.kept (hb.block _ h.ltI), (World.cell?_of_block (w := w1) (w' := w2) (a := ⟨X, 1034, none⟩) (hb.block _ h.ltX)).trans h.idx, by have := hb.size; have := h.ltW; omega, by have := hb.size; have := h.ltI; omega, by have := hb.size; have := h.ltX; omega⟩

theorem Mid.mod {w : World} {n : Nat} {S : Nat → ByteArray} {N : Nat → Int} {W I X : Nat} {w1 w2 : World} {g k : Nat} (h : Mid w n S N W I X w1) (hm : ModInv w1 g n k w2) (hg : w.heap.size ≤ g) (gW : W ≠ g) (gI : I ≠ g) (gX : X ≠ g) : Mid w n S N W I X w2 :=
  ⟨⟨hm.bel.os.trans h.bel.os, hm.bel.tape.trans h.bel.tape, hm.bel.output.trans h.bel.output, by have := h.bel.size; have := hm.size; omega, fun b hb => (hm.oth b (by omega)).trans (h.bel.block b hb)⟩, h.hW, h.want.kept (hm.oth _ gW), h.inn.kept (hm.oth _ gI), (World.cell?_of_block (w := w1) (w' := w2) (a := ⟨X, 1034, none⟩) (hm.oth _ gX)).trans h.idx,
    by have := hm.size; have := h.ltW; omega, by have := hm.size; have := h.ltI; omega, by have := hm.size; have := h.ltX; omega⟩

theorem Mid.rd {w : World} {n : Nat} {S : Nat → ByteArray} {N : Nat → Int} {W I X : Nat} {w1 : World} (h : Mid w n S N W I X w1) (hn : n ≤ 32768) : Rd w1 (.slice (some ⟨I, 0, none⟩) n n) n S N :=
  ⟨some ⟨I, 0, none⟩, n, rfl, Nat.le_refl _, by omega, (fun h => by cases h), fun _ => ⟨I, 0, rfl, h.inn⟩⟩

/-- Records at that state. -/
theorem Mid.records {w : World} {n : Nat} {S : Nat → ByteArray} {N : Nat → Int} {W I X : Nat} {w1 : World} (h : Mid w n S N W I X w1) (hn : n ≤ 32768) : Calls Try.prog 7 #[.pointer (some ⟨X, 0, none⟩)] w1 (ClonedQ w1 n S N) :=
  records_some h.idx (h.rd hn) hn

theorem Mid.same {w : World} {n : Nat} {S : Nat → ByteArray} {N : Nat → Int} {W I X : Nat} {w1 w2 : World} {g cap : Nat} (h : Mid w n S N W I X w1) (hM : Made w1 n S N g cap w2) (hn : n ≤ 32768) (c : Nat) :
    Calls Try.prog 8 #[.slice (some ⟨g, 0, none⟩) n cap, .slice (some ⟨W, 0, none⟩) n c] w2 fun e w' => e = .returned (.bool true) ∧ ∃ n, w' = w2.drewN n :=
  same_full g 0 cap W 0 c n S N w2 (by omega) hM.got (h.on hM.bel).want

theorem ModInv.start {w w2 : World} {n m g cap : Nat} {S : Nat → ByteArray} {N : Nat → Int} (hM : Made w n S N g cap w2) (hS : ∀ j, j < n → (S j).size ≤ 1048576) : ModInv (w2.drewN m) g n 0 (w2.drewN m) :=
  ⟨Below.refl _ _, rfl, fun _ _ => rfl, hM.wri, S, N, hM.got, fun j _ hj => hS j hj⟩

set_option maxRecDepth 100000 in
set_option maxHeartbeats 3200000 in
theorem records_law_some {w : World} {a : Addr} {n c : Nat} {S : Nat → ByteArray} {N : Nat → Int} (h : Rd w (.slice (some a) n c) n S N) (hS : ∀ j, j < n → (S j).size ≤ 9223372036854775807) :
    Calls Try.prog 3 #[.slice (some a) n c] w fun e w' => e = .returned (.bool true) ∧ Below w.heap.size w w' := by
  have hn0 : n ≤ 9223372036854775807 := by
    obtain ⟨a1, c1, he, l1, m1, _⟩ := h
    omega
  have H4 := hidIt (bytes_any h hS)
  by_cases t1 : 32768 < n
  · clear h hS
    go_enter Try.func3, Try.ntmps3
    go_wp2_with (go_at_call 4; refine H4.out.mono ?_; rintro e w1 ⟨⟨r, rfl, hr⟩, hw1⟩; have hw2 := hw1.symm; clear hw1; subst hw2; have HB := hidIt hr; clear hr; cases r)
    all_goals
      go_ret
      exact ⟨rfl, Below.refl _ _⟩
  have hn : n ≤ 32768 := by omega
  have H5 := hidIt (copy_some h hn)
  have HR := hidIt h
  have HS := hidIt hS
  have HA : Hid (0 < n → ∃ b o, a = ⟨b, o, none⟩ ∧ RecsAt w b o n S N) := by
    intro h0
    obtain ⟨a1, c1, he, l1, m1, _, r1⟩ := h
    obtain ⟨b, o, he2, g⟩ := r1 h0
    simp only [Value.slice.injEq] at he
    rw [he2] at he
    simp only [Option.some.injEq] at he
    exact ⟨b, o, he.1, g⟩
  clear h hS t1 hn0
  have n22 := n22
  have hmk := make_recs 27 28 Try.underlying27 Try.info28 n hn
  have HC0 : Hid (∀ w, CopyInv w n S N 0 (w.alloc (.cells (madeCells #[.string "".toUTF8, .int .i64 0] (n * 2)) 28))) := fun w => CopyInv.start w n S N 28 _ (size_madeCells #[.string "".toUTF8, .int .i64 0] _)
  go_enter Try.func3, Try.ntmps3
  go_wp2_with (go_at_call 4; refine H4.out.mono ?_; rintro e w1 ⟨⟨r, rfl, hr⟩, hw1⟩; have hw2 := hw1.symm; clear hw1; subst hw2; have HB := hidIt hr; clear hr; cases r)
  · go_ret
    exact ⟨rfl, Below.refl _ _⟩
  replace HB : Hid (∀ j, j < n → (S j).size ≤ 1048576) := HB.out trivial
  go_loop [3, 4] (fun t i => ∃ (k : Nat) (s : Int), k ≤ n ∧ 0 ≤ s ∧ s ≤ 1048576 ∧ i = .int .i64 k ∧ t = .int .i64 s) (fun _ i => n - (intOf i).toNat)
  case atStart => exact ⟨0, (n : Int) * 24, Nat.zero_le _, by omega, by omega, rfl, rfl⟩
  case round =>
    obtain ⟨k, s, hk, hs0, hs1, rfl, rfl⟩ := hrel
    by_cases hlt : k < n
    · obtain ⟨b, o, rfl, h1⟩ := HA.out (by omega)
      have g1 := (h1 k hlt).1
      have g2 := HB.out k hlt
      obtain ⟨x, hx⟩ : ∃ x, x = S k := ⟨_, rfl⟩
      rw [← hx] at g1 g2
      clear hx h1 hmk
      by_cases hb2 : 1048576 < s + x.size
      · go_wp2
        go_ret
        exact ⟨rfl, Below.refl _ _⟩
      · go_wp2
        go_round
        case rel => exact ⟨k + 1, s + x.size, by omega, by omega, by omega, by go_num, by go_num⟩
        case measure => simp [intOf]; omega
    · obtain rfl : n = k := by omega
      go_wp2_with fail
      refine H5.out.mono ?_
      rintro e w1 ⟨rfl, hI1⟩
      have HI1 := hidIt hI1
      clear hI1
      have HC := hidIt (HC0.out w1)
      go_wp2
      go_loopw [7] (fun i wr => ∃ k : Nat, k ≤ n ∧ i = .int .i64 k ∧ Hid (CopyInv w1 n S N k wr)) (fun i _ => n - (intOf i).toNat)
      case atStart => exact ⟨0, Nat.zero_le _, rfl, HC.out⟩
      case round =>
        clear hmk
        obtain ⟨k, hk, rfl, HI⟩ := hrel
        by_cases hlt : k < n
        · obtain ⟨b, o, rfl, h1⟩ := HA.out (by omega)
          have hb : b < w.heap.size := World.block_lt_of_cell? _ _ (h1 k hlt).1
          have h2 := RecsAt.kept h1 ((HI.out.bel.block b (by have := HI1.out.size; omega)).trans (HI1.out.bel.block b hb))
          have g1 := (h2 k hlt).1
          have g1' := (h2 k hlt).2
          obtain ⟨c0, hc0⟩ := Option.isSome_iff_exists.1 (HI.out.wri (k * 2) (by omega)).1
          obtain ⟨c1, hc1⟩ := Option.isSome_iff_exists.1 (HI.out.wri (k * 2 + 1) (by omega)).1
          have f0 := (HI.out.wri (k * 2) (by omega)).2
          have f1 := (HI.out.wri (k * 2 + 1) (by omega)).2
          rw [Nat.zero_add] at hc0 hc1 f0 f1
          have HN := hidIt (HI.out.step hlt)
          obtain ⟨x, hx⟩ : ∃ x, x = S k := ⟨_, rfl⟩
          obtain ⟨y, hy⟩ : ∃ x, x = N k := ⟨_, rfl⟩
          rw [← hx] at g1 HN
          rw [← hy] at g1' HN
          clear hx hy h2 h1
          go_wp2
          go_roundw
          case rel => exact ⟨k + 1, by omega, by go_num, HN.out⟩
          case measure => simp [intOf]; omega
        · obtain rfl : n = k := by omega
          go_wp2_with fail
          refine (index_any _ _ _ _).mono ?_
          rintro e w3 ⟨rfl, b3, s3, c3⟩
          have HM := hidIt (mid_of HI1.out HI.out b3 s3 c3)
          clear b3 s3 c3
          go_wp2_with fail
          refine (HM.out.records hn).mono ?_
          rintro e w4 ⟨g1, cap1, rfl, hM1⟩
          have HM1 := hidIt hM1
          clear hM1
          go_wp2_with fail
          refine (HM.out.same HM1.out hn _).mono ?_
          rintro e w5 ⟨rfl, m1, rfl⟩
          have HD0 := hidIt (ModInv.start (m := m1) HM1.out HB.out)
          have HMa := hidIt ((HM.out.on HM1.out.bel).on (below_drew w4 m1))
          have G1 : Hid (w3.heap.size ≤ g1) := HM1.out.lo
          have L1 : Hid (w.heap.size < w3.heap.size ∧ w1.heap.size < w3.heap.size ∧ wr.heap.size < w3.heap.size ∧ w.heap.size ≤ w3.heap.size) := ⟨HM.out.ltW, HM.out.ltI, HM.out.ltX, HM.out.bel.size⟩
          have HCap : Hid (n ≤ cap1 ∧ cap1 ≤ 9223372036854775807) := ⟨HM1.out.cap1, HM1.out.cap2⟩
          clear HM HM1 HI HI1 H4 H5 HR HS HC HC0
          obtain ⟨X, hX⟩ : ∃ X, X = wr.heap.size := ⟨_, rfl⟩
          rw [← hX] at HMa L1 ⊢
          clear hX
          go_wp2
          go_loopw [10] (fun i wz => ∃ k : Nat, k ≤ n ∧ i = .int .i64 k ∧ Hid (ModInv (w4.drewN m1) g1 n k wz)) (fun i _ => n - (intOf i).toNat)
          case atStart => exact ⟨0, Nat.zero_le _, rfl, HD0.out⟩
          case round =>
            obtain ⟨k, hk, rfl, HD⟩ := hrel
            by_cases hlt : k < n
            · obtain ⟨S', N', hR', hS'⟩ := HD.out.got
              have e0 := (hR' k hlt).1
              have e1 := (hR' k hlt).2
              have e2 := hS' k (Nat.le_refl _) hlt
              have f0 := (HD.out.wri (k * 2) (by omega)).2
              have f1 := (HD.out.wri (k * 2 + 1) (by omega)).2
              rw [Nat.zero_add] at e0 e1 f0 f1
              have HN := hidIt (HD.out.step hlt)
              obtain ⟨x, hx⟩ : ∃ x, x = S' k := ⟨_, rfl⟩
              obtain ⟨y, hy⟩ : ∃ x, x = N' k := ⟨_, rfl⟩
              rw [← hx] at e0 e2
              rw [← hy] at e1
              clear hx hy hR' hS'
              go_wp2
              go_roundw
              case rel => exact ⟨k + 1, by omega, by go_num, HN.out _ _⟩
              case measure => simp [intOf]; omega
            · obtain rfl : n = k := by omega
              have HMb := hidIt (HMa.out.mod HD.out (by have := L1.out; have := G1.out; omega) (by have := L1.out; have := G1.out; omega) (by have := L1.out; have := G1.out; omega) (by have := L1.out; have := G1.out; omega))
              clear HMa HD HD0
              go_wp2_with fail
              refine (HMb.out.records hn).mono ?_
              rintro e w6 ⟨g2, cap2, rfl, hM2⟩
              have HM2 := hidIt hM2
              clear hM2
              go_wp2_with fail
              refine (HMb.out.same HM2.out hn _).mono ?_
              rintro e w7 ⟨rfl, m2, rfl⟩
              have HF := hidIt ((HMb.out.on HM2.out.bel).on (below_drew w6 m2)).bel
              clear HMb HM2
              go_wp2
              go_ret
              exact ⟨rfl, HF.out⟩

set_option maxRecDepth 100000 in
set_option maxHeartbeats 1600000 in
theorem records_law_nil (w : World) : Calls Try.prog 3 #[.slice none 0 0] w fun e w' => e = .returned (.bool true) ∧ Below w.heap.size w w' := by
  have H4 := hidIt (bytes_none none 0 (fun _ => ByteArray.empty) w)
  have H5 := hidIt (copy_nil w)
  have n22 := n22
  go_enter Try.func3, Try.ntmps3
  go_wp2_with (go_at_call 4; refine H4.out.mono ?_; rintro e w1 ⟨⟨r, rfl, hr⟩, hw1⟩; have hw2 := hw1.symm; clear hw1; subst hw2; clear hr; cases r)
  · go_ret
    exact ⟨rfl, Below.refl _ _⟩
  refine wp_loop_rounds 1 ?_
  rw [rounds_succ]
  go_wp2_with fail
  refine H5.out.mono ?_
  rintro e w1 ⟨rfl, hw1⟩
  have hw2 := hw1.symm
  clear hw1
  subst hw2
  go_wp2_with fail
  refine (index_any _ _ _ _).mono ?_
  rintro e w3 ⟨rfl, b3, s3, c3⟩
  have HB3 := hidIt b3
  have HC3 := hidIt c3
  clear b3 s3 c3
  go_wp2_with fail
  refine (records_nil HC3.out).mono ?_
  rintro e w4 ⟨rfl, hw4⟩
  have hw5 := hw4.symm
  clear hw4
  subst hw5
  go_wp2_with fail
  refine (same_nil _).mono ?_
  rintro e w5 ⟨rfl, m1, rfl⟩
  go_wp2
  refine wp_loop_rounds 1 ?_
  rw [rounds_succ]
  have HC4 : Hid ((w3.drewN m1).cell? ⟨w.heap.size, 1034, none⟩ = some (.slice none 0 0)) := HC3.out
  clear HC3
  go_wp2_with fail
  refine (records_nil HC4.out).mono ?_
  rintro e w4 ⟨rfl, hw4⟩
  have hw5 := hw4.symm
  clear hw4
  subst hw5
  go_wp2_with fail
  refine (same_nil _).mono ?_
  rintro e w5 ⟨rfl, m2, rfl⟩
  go_wp2
  go_ret
  exact ⟨rfl, HB3.out.trans ⟨rfl, rfl, rfl, Nat.le_refl _, fun _ _ => rfl⟩⟩

end Go.Proofs.Qxb6617509a
