/-
  The making functions: zzB1Canon (7), zzB1Prepend (10).
-/
import Derived.Test.Qxb6617284aDoorRead
namespace Go.Proofs.Qxb6617284aDoor
set_option linter.unusedVariables false
open Go.RowKit Go.Deep

/-- What a writing loop has made, in one new block of n bytes, after k places. -/
structure MakeInv (w : World) (n : Nat) (l : List UInt8) (k : Nat) (wr : World) : Prop where
  bel : Below w.heap.size w wr
  size : wr.heap.size = w.heap.size + 1
  wri : ∀ j, j < n → (wr.cell? ⟨w.heap.size, j, none⟩).isSome = true ∧ wr.frozen? ⟨w.heap.size, j, none⟩ = false
  got : ∀ j, j < k → wr.cell? ⟨w.heap.size, j, none⟩ = some (.int .u8 (byteAt l j))

theorem MakeInv.start (w : World) (n : Nat) (l : List UInt8) (ty : TypeId) (X : Array Value) (hX : X.size = n) : MakeInv w n l 0 (w.alloc (.cells X ty)) := by
  refine ⟨⟨rfl, rfl, rfl, by simp, fun k hk => Below.heap_alloc _ _ _ hk⟩, by simp, ?_, fun j hj => by omega⟩
  intro j hj
  constructor
  · rw [World.cell?_alloc_at X ty _ _ rfl, Array.getElem?_eq_getElem (by omega)]; rfl
  · exact World.frozen?_alloc_at X ty _ _ rfl

theorem MakeInv.step {w : World} {n : Nat} {l : List UInt8} {k : Nat} {wr : World} (h : MakeInv w n l k wr) (hk : k < n) : MakeInv w n l (k + 1) (wr.setCell ⟨w.heap.size, k, none⟩ (.int .u8 (byteAt l k))) := by
  have ho : ∀ g, g ≠ w.heap.size → (wr.setCell ⟨w.heap.size, k, none⟩ (.int .u8 (byteAt l k))).heap[g]? = wr.heap[g]? := fun g hg => Below.heap_setCell _ _ _ _ hg
  have hs : (wr.setCell ⟨w.heap.size, k, none⟩ (.int .u8 (byteAt l k))).heap.size = wr.heap.size := by simp
  have hth : ∀ i, i < [Value.int .u8 (byteAt l k)].length → (wr.cell? ⟨w.heap.size, k + i, none⟩).isSome = true := fun i hi => by
    have hi0 : i = 0 := by simp at hi; omega
    subst hi0
    exact (h.wri k hk).1
  refine ⟨⟨h.bel.os, h.bel.tape, h.bel.output, by rw [hs]; exact h.bel.size, fun g hg => (ho g (by omega)).trans (h.bel.block g hg)⟩, hs.trans h.size, fun j hj => ⟨?_, ?_⟩, fun j hj => ?_⟩
  · exact World.isSome_setCells w.heap.size [Value.int .u8 (byteAt l k)] k wr _ (h.wri j hj).1
  · exact (World.frozen?_setCells w.heap.size [Value.int .u8 (byteAt l k)] k wr _).trans (h.wri j hj).2
  · by_cases hjk : j = k
    · subst hjk
      have := World.cell?_setCells_in w.heap.size [Value.int .u8 (byteAt l j)] j wr hth 0 (by simp)
      exact this
    · rw [← h.got j (by omega)]
      exact World.cell?_setCells_out w.heap.size [Value.int .u8 (byteAt l k)] k wr ⟨w.heap.size, j, none⟩ (fun _ _ => .inl (by show j < k; omega))

theorem MakeInv.start1 (w : World) (n : Nat) (l : List UInt8) (ty : TypeId) (X : Array Value) (hX : X.size = n) (hn : 0 < n) (x : Int) (hx : byteAt l 0 = x) : MakeInv w n l 1 (w.alloc (.cells (X.setIfInBounds 0 (.int .u8 x)) ty)) := by
  have h := MakeInv.start w n l ty (X.setIfInBounds 0 (.int .u8 x)) (by simpa using hX)
  refine ⟨h.bel, h.size, h.wri, fun j hj => ?_⟩
  obtain rfl : j = 0 := by omega
  rw [World.cell?_alloc_at _ ty _ _ rfl, Array.getElem?_setIfInBounds_self_of_lt (by omega), hx]

theorem MakeInv.bytes {w : World} {l : List UInt8} {wr : World} {k n : Nat} (h : MakeInv w n l k wr) (hk : l.length ≤ k) : Bytes wr w.heap.size 0 l := fun j hj => by
  rw [Nat.zero_add]
  exact h.got j (by omega)

theorem make_bytes (n : Nat) (hn : n ≤ 4194304) (w : World) : (Instr.makeSlice 22 (.int .i64 (n : Int)) (.int .i64 (n : Int))).run Tryd.prog w = .ok (.slice (some ⟨w.heap.size, 0, none⟩) n n) (w.alloc (.cells (madeCells #[.int .u8 0] n) 5)) :=
  run_make_row' (P := Tryd.prog) 22 5 (.int .u8 0) 1 Tryd.underlying22 Tryd.info5 rfl .i64 .i64 n (by omega) (by omega) w

set_option maxHeartbeats 1600000 in
theorem prepend_any (b o c L : Nat) (x : UInt8) (x' : Int) (hx : Hid (x' = x.toNat)) (hx0 : 0 ≤ x') (hx1 : x' ≤ 255) (l : List UInt8) (w : World) (hL : Hid (L = l.length)) (hn : L ≤ 1048576) (h : Bytes w b o l) :
    Calls Tryd.prog 10 #[.int .u8 x', .slice (some ⟨b, o, none⟩) L c] w fun e w' => e = .returned (.slice (some ⟨w.heap.size, 0, none⟩) (L + 1) (L + 1)) ∧ MakeInv w (L + 1) (x :: l) (L + 1) w' := by
  have H := hidIt h
  clear h
  have hmk : ∀ w, (Instr.makeSlice 22 (.int .i64 ((L : Int) + 1)) (.int .i64 ((L : Int) + 1))).run Tryd.prog w = .ok (.slice (some ⟨w.heap.size, 0, none⟩) (L + 1) (L + 1)) (w.alloc (.cells (madeCells #[.int .u8 0] (L + 1)) 5)) := fun w => make_bytes (L + 1) (by omega) w
  obtain ⟨X, hX⟩ : ∃ X, X = madeCells #[Value.int .u8 0] (L + 1) := ⟨_, rfl⟩
  have hXs : X.size = L + 1 := by rw [hX]; exact size_madeCells _ _
  rw [← hX] at hmk
  clear hX
  have HC1 := hidIt (MakeInv.start1 w (L + 1) (x :: l) 5 X hXs (by omega) x' (by rw [hx.out]; rfl))
  obtain ⟨c0, hc0⟩ : ∃ c0, X[0]? = some c0 := ⟨X[0]'(by omega), Array.getElem?_eq_getElem _⟩
  go_enter Tryd.func10, Tryd.ntmps10
  go_wp2
  go_loopw [6] (fun i wr => ∃ k : Nat, k ≤ L ∧ i = .int .i64 k ∧ Hid (MakeInv w (L + 1) (x :: l) (k + 1) wr)) (fun i _ => L - (intOf i).toNat)
  case atStart => exact ⟨0, Nat.zero_le _, rfl, HC1.out⟩
  case round =>
    clear hmk HC1 hc0
    obtain ⟨k, hk, rfl, HI⟩ := hrel
    by_cases hlt : k < L
    · have h0 : l ≠ [] := by intro e; have := hL.out; rw [e] at this; simp at this; omega
      have g1 := (H.out.on HI.out.bel h0) k (by rw [← hL.out]; exact hlt)
      obtain ⟨c1, hc1⟩ := Option.isSome_iff_exists.1 (HI.out.wri (k + 1) (by omega)).1
      have f1 := (HI.out.wri (k + 1) (by omega)).2
      have HN := hidIt (HI.out.step (by omega))
      have eb : byteAt (x :: l) (k + 1) = byteAt l k := by simp [byteAt]
      rw [eb] at HN
      clear eb
      obtain ⟨y, hy⟩ : ∃ y, y = byteAt l k := ⟨_, rfl⟩
      rw [← hy] at g1 HN
      clear hy
      go_wp2
      go_roundw
      case rel => exact ⟨k + 1, by omega, by go_num, HN.out⟩
      case measure => simp [intOf]; omega
    · go_wp2
      go_ret
      obtain rfl : L = k := by omega
      exact ⟨rfl, HI.out⟩

/-- The canonical form of the digits behind place f. -/
def CanQ (w : World) (l : List UInt8) (f : Nat) (e : Ending) (w' : World) : Prop :=
  ∃ n, n = (canon (l.drop f)).length ∧ e = .returned (.slice (some ⟨w.heap.size, 0, none⟩) n n) ∧ Bytes w' w.heap.size 0 (canon (l.drop f)) ∧ Below w.heap.size w w' ∧ w'.heap.size = w.heap.size + 1

set_option maxHeartbeats 1600000 in
theorem canon_any (b o c L f : Nat) (l : List UInt8) (w : World) (hL : Hid (L = l.length)) (hn : L ≤ 1048576) (hf : f < L) (h : Bytes w b o l) :
    Calls Tryd.prog 7 #[.slice (some ⟨b, o, none⟩) L c, .int .i64 (f : Int)] w (CanQ w l f) := by
  have H := hidIt h
  clear h
  go_enter Tryd.func7, Tryd.ntmps7
  go_wp2
  go_loop [5] (fun i => ∃ k : Nat, k < L ∧ i = .int .i64 k ∧ Hid (canon (l.drop f) = canon (l.drop k))) (fun i => L - (intOf i).toNat)
  case atStart => exact ⟨f, hf, rfl, rfl⟩
  case round =>
    obtain ⟨k, hk, rfl, HE⟩ := hrel
    have g1 := H.out k (by rw [← hL.out]; exact hk)
    obtain ⟨x, hx⟩ : ∃ x, x = byteAt l k := ⟨_, rfl⟩
    have x0 := byteAt_lo l k
    have x1 := byteAt_hi l k
    rw [← hx] at g1 x0 x1
    have HX := hidIt hx
    clear hx
    by_cases hgo : k + 1 < L ∧ x = 48
    · obtain ⟨hk1, rfl⟩ := hgo
      go_wp2
      go_round
      case rel =>
        refine ⟨k + 1, by omega, by go_num, HE.out.trans (canon_skip (by have := hL.out; omega) ?_)⟩
        have := HX.out
        simp only [byteAt] at this
        omega
      case measure => simp [intOf]; omega
    · have HS : Hid (canon (l.drop f) = l.drop k) := by
        refine hidIt (HE.out.trans (canon_stop ?_))
        have h1 := HX.out
        have h2 := hL.out
        simp only [byteAt] at h1
        omega
      clear HE
      obtain ⟨n, hnn⟩ : ∃ n, k + n = L := ⟨L - k, by omega⟩
      have hmk : ∀ w, (Instr.makeSlice 22 (.int .i64 ((L : Int) - (k : Int))) (.int .i64 ((L : Int) - (k : Int)))).run Tryd.prog w = .ok (.slice (some ⟨w.heap.size, 0, none⟩) n n) (w.alloc (.cells (madeCells #[.int .u8 0] n) 5)) := fun w => by
        rw [show (L : Int) - (k : Int) = (n : Int) by omega]
        exact make_bytes n (by omega) w
      have HC := hidIt (MakeInv.start w n (l.drop k) 5 _ (size_madeCells #[.int .u8 0] n))
      have hgo' : k + 1 < L → ¬ x = 48 := fun h e => hgo ⟨h, e⟩
      clear hgo
      by_cases hk1 : k + 1 < L
      all_goals
        first | (have hx48 := hgo' hk1) | skip
        clear hgo'
        go_wp2
        clear hmk
        go_loopw [7] (fun i wr => ∃ m : Nat, m ≤ n ∧ i = .int .i64 ((k : Int) + m) ∧ Hid (MakeInv w n (l.drop k) m wr)) (fun i _ => L - (intOf i).toNat)
        case atStart => exact ⟨0, Nat.zero_le _, by simp, HC.out⟩
        case round =>
          clear HC
          obtain ⟨m, hm, rfl, HI⟩ := hrel
          by_cases hlt : m < n
          · have h0 : l ≠ [] := by intro e; have := hL.out; rw [e] at this; simp at this; omega
            have gk := (H.out.on HI.out.bel h0) (k + m) (by rw [← hL.out]; omega)
            obtain ⟨c1, hc1⟩ := Option.isSome_iff_exists.1 (HI.out.wri m hlt).1
            have f1 := (HI.out.wri m hlt).2
            have HN := hidIt (HI.out.step hlt)
            have eb : byteAt (l.drop k) m = byteAt l (k + m) := by simp [byteAt]
            rw [eb] at HN
            clear eb
            obtain ⟨y, hy⟩ : ∃ y, y = byteAt l (k + m) := ⟨_, rfl⟩
            rw [← hy] at gk HN
            clear hy
            go_wp2
            go_roundw
            case rel => exact ⟨m + 1, by omega, by go_num, HN.out⟩
            case measure => simp [intOf]; omega
          · go_wp2
            go_ret
            obtain rfl : n = m := by omega
            have hS := HS.out
            have h2 := hL.out
            refine ⟨n, by rw [hS]; simp; omega, rfl, ?_, HI.out.bel, HI.out.size⟩
            rw [hS]
            exact HI.out.bytes (by simp; omega)

end Go.Proofs.Qxb6617284aDoor
