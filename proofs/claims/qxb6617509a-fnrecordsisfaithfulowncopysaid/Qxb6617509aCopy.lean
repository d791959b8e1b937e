/-
  copyRecs (function 5).
-/
import Derived.Test.Qxb6617509aRead
namespace Go.Proofs.Qxb6617509a
set_option linter.unusedVariables false
open Go.RowKit Go.Deep

/-- What a copying loop has made after k rounds, in one new block. -/
structure CopyInv (w : World) (n : Nat) (S : Nat → ByteArray) (N : Nat → Int) (k : Nat) (wr : World) : Prop where
  bel : Below w.heap.size w wr
  size : wr.heap.size = w.heap.size + 1
  wri : wr.there w.heap.size 0 (n * 2)
  got : RecsAt wr w.heap.size 0 k S N

theorem CopyInv.start (w : World) (n : Nat) (S : Nat → ByteArray) (N : Nat → Int) (ty : TypeId) (X : Array Value) (hX : X.size = n * 2) : CopyInv w n S N 0 (w.alloc (.cells X ty)) := by
  refine ⟨⟨rfl, rfl, rfl, by simp, fun k hk => Below.heap_alloc _ _ _ hk⟩, by simp, ?_, fun j hj => by omega⟩
  intro j hj
  constructor
  · rw [World.cell?_alloc_at X ty _ _ rfl, Array.getElem?_eq_getElem (by omega)]; rfl
  · exact World.frozen?_alloc_at X ty _ _ rfl

theorem CopyInv.step {w : World} {n : Nat} {S : Nat → ByteArray} {N : Nat → Int} {k : Nat} {wr : World} (h : CopyInv w n S N k wr) (hk : k < n) : CopyInv w n S N (k + 1) (wr.setCells w.heap.size (k * 2) [.string (S k), .int .i64 (N k)]) := by
  have ho : ∀ g, g ≠ w.heap.size → (wr.setCells w.heap.size (k * 2) [.string (S k), .int .i64 (N k)]).heap[g]? = wr.heap[g]? := fun g hg =>
    (Below.heap_setCell _ _ _ _ hg).trans (Below.heap_setCell _ _ _ _ hg)
  have hs : (wr.setCells w.heap.size (k * 2) [.string (S k), .int .i64 (N k)]).heap.size = wr.heap.size := by simp [World.setCells]
  have hth : ∀ i, i < [Value.string (S k), .int .i64 (N k)].length → (wr.cell? ⟨w.heap.size, k * 2 + i, none⟩).isSome = true := fun i hi => by
    have := (h.wri (k * 2 + i) (by simp at hi; omega)).1
    rwa [Nat.zero_add] at this
  refine ⟨⟨h.bel.os, h.bel.tape, h.bel.output, by rw [hs]; exact h.bel.size, fun g hg => (ho g (by omega)).trans (h.bel.block g hg)⟩, hs.trans h.size, World.there_setCells h.wri _ _ _, fun j hj => ?_⟩
  by_cases hjk : j = k
  · subst hjk
    constructor
    · have := World.cell?_setCells_in w.heap.size [Value.string (S j), .int .i64 (N j)] (j * 2) wr hth 0 (by simp)
      simpa using this
    · have := World.cell?_setCells_in w.heap.size [Value.string (S j), .int .i64 (N j)] (j * 2) wr hth 1 (by simp)
      simpa using this
  · obtain ⟨h1, h2⟩ := h.got j (by omega)
    constructor
    · rw [← h1]; exact World.cell?_setCells_out _ _ _ _ _ (fun _ _ => .inl (by show 0 + j * 2 < k * 2; omega))
    · rw [← h2]; exact World.cell?_setCells_out _ _ _ _ _ (fun _ _ => .inl (by show 0 + j * 2 + 1 < k * 2; omega))

/-- make at n records. -/
theorem make_recs (t e : TypeId) (ht : Try.prog.underlying t = some (.slice e)) (hinfo : (Try.prog.info? e).map (fun i => (i.zero, i.size, i.bytes)) = some (some (.agg #[.string "".toUTF8, .int .i64 0]), 2, 24)) (n : Nat) (hn : n ≤ 32768) (w : World) :
    (Instr.makeSlice t (.int .i64 (n : Int)) (.int .i64 (n : Int))).run Try.prog w = .ok (.slice (some ⟨w.heap.size, 0, none⟩) n n) (w.alloc (.cells (madeCells #[.string "".toUTF8, .int .i64 0] (n * 2)) e)) := by
  obtain ⟨i, hi, hzz⟩ := Option.map_eq_some_iff.1 hinfo
  simp only [Prod.mk.injEq] at hzz
  obtain ⟨hz, hs, hb⟩ := hzz
  have hr := run_make (P := Try.prog) w t e i _ ht hi hz .i64 .i64 n n (by omega) (Int.le_refl _) (by rw [hb]; omega) (by omega)
  simp only [Int.toNat_natCast, hs] at hr
  exact hr

theorem copy_nil (w : World) : Calls Try.prog 5 #[.slice none 0 0] w fun e w' => e = .returned (.slice none 0 0) ∧ w' = w := by
  have q22 := q22
  go_enter Try.func5, Try.ntmps5
  go_wp2
  go_ret
  exact ⟨rfl, rfl⟩

set_option maxHeartbeats 800000 in
theorem copy_full (b o c n : Nat) (S : Nat → ByteArray) (N : Nat → Int) (w : World) (hn : n ≤ 32768) (h1 : RecsAt w b o n S N) :
    Calls Try.prog 5 #[.slice (some ⟨b, o, none⟩) n c] w fun e w' => e = .returned (.slice (some ⟨w.heap.size, 0, none⟩) n n) ∧ CopyInv w n S N n w' := by
  have q22 := q22
  have hmk := make_recs 22 25 Try.underlying22 Try.info25 n hn
  have H1 := hidIt h1
  have HC := hidIt (CopyInv.start w n S N 25 _ (size_madeCells #[.string "".toUTF8, .int .i64 0] _))
  clear h1
  go_enter Try.func5, Try.ntmps5
  go_wp2
  go_loopw [4] (fun i wr => ∃ k : Nat, k ≤ n ∧ i = .int .i64 k ∧ Hid (CopyInv w n S N k wr)) (fun i _ => n - (intOf i).toNat)
  case atStart => exact ⟨0, Nat.zero_le _, rfl, HC.out⟩
  case round =>
    clear hmk
    obtain ⟨k, hk, rfl, HI⟩ := hrel
    by_cases hlt : k < n
    · have hb : b < w.heap.size := World.block_lt_of_cell? _ _ (H1.out k hlt).1
      have h2 := RecsAt.kept H1.out (HI.out.bel.block b hb)
      have g1 := (h2 k hlt).1
      have g1' := (h2 k hlt).2
      obtain ⟨c0, hc0⟩ := Option.isSome_iff_exists.1 (HI.out.wri (k * 2) (by omega)).1
      obtain ⟨c1, hc1⟩ := Option.isSome_iff_exists.1 (HI.out.wri (k * 2 + 1) (by omega)).1
      have f0 := (HI.out.wri (k * 2) (by omega)).2
      have f1 := (HI.out.wri (k * 2 + 1) (by omega)).2
      rw [Nat.zero_add] at hc0 hc1 f0 f1
      have HN := hidIt (HI.out.step hlt)
      obtain ⟨x, hx⟩ : ∃ x, x = S k := ⟨_, rfl⟩
      obtain ⟨y, hy⟩ : ∃ x, x = N k := ⟨_, rfl⟩
      rw [← hx] at g1 HN
      rw [← hy] at g1' HN
      clear hx hy h2
      go_wp2
      go_roundw
      case rel => exact ⟨k + 1, by omega, by go_num, HN.out⟩
      case measure => simp [intOf]; omega
    · go_wp2
      go_ret
      obtain rfl : k = n := by omega
      exact ⟨rfl, HI.out⟩

set_option maxHeartbeats 400000 in
theorem copy_empty (a : Addr) (c : Nat) (S : Nat → ByteArray) (N : Nat → Int) (w : World) :
    Calls Try.prog 5 #[.slice (some a) 0 c] w fun e w' => e = .returned (.slice (some ⟨w.heap.size, 0, none⟩) 0 0) ∧ CopyInv w 0 S N 0 w' := by
  have q22 := q22
  have hmk : ∀ w, (Instr.makeSlice 22 (.int .i64 0) (.int .i64 0)).run Try.prog w = .ok (.slice (some ⟨w.heap.size, 0, none⟩) 0 0) (w.alloc (.cells (madeCells #[.string "".toUTF8, .int .i64 0] (0 * 2)) 25)) := fun w => make_recs 22 25 Try.underlying22 Try.info25 0 (by omega) w
  have HC := hidIt (CopyInv.start w 0 S N 25 _ (size_madeCells #[.string "".toUTF8, .int .i64 0] _))
  go_enter Try.func5, Try.ntmps5
  go_wp2
  refine wp_loop_rounds 1 ?_
  rw [rounds_succ]
  go_wp2
  go_ret
  exact ⟨rfl, HC.out⟩

/-- copyRecs at a slice that is not nil. -/
theorem copy_some {w : World} {a : Addr} {n c : Nat} {S : Nat → ByteArray} {N : Nat → Int} (h : Rd w (.slice (some a) n c) n S N) (hn : n ≤ 32768) :
    Calls Try.prog 5 #[.slice (some a) n c] w fun e w' => e = .returned (.slice (some ⟨w.heap.size, 0, none⟩) n n) ∧ CopyInv w n S N n w' := by
  obtain ⟨a1, c1, he, l1, m1, _, r1⟩ := h
  simp only [Value.slice.injEq] at he
  obtain ⟨rfl, _, rfl⟩ := he
  by_cases h0 : 0 < n
  · obtain ⟨b, o, he, g⟩ := r1 h0
    simp only [Option.some.injEq] at he
    subst he
    exact copy_full b o c n S N w hn g
  · obtain rfl : n = 0 := by omega
    exact copy_empty a c S N w

end Go.Proofs.Qxb6617509a
