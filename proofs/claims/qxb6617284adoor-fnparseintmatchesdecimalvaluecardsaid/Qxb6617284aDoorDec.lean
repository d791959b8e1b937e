/-
  zzB1Decimal (function 13), zzB1SameBytes (12), zzB1IsZero (9).
-/
import Derived.Test.Qxb6617284aDoorLaw
namespace Go.Proofs.Qxb6617284aDoor
set_option linter.unusedVariables false
open Go.RowKit Go.Deep

/-! ### the digits that are written from the right -/
/-- ds are the last digits of U, u is what is left of it. -/
structure Left (U u : Nat) (ds : List UInt8) : Prop where
  dig : Dig ds
  val : U = u * 10 ^ ds.length + dv ds
  can : u = 0 → Cn ds

theorem dig_byte {d : Nat} (h : d < 10) : (UInt8.ofNat (48 + d)).toNat = 48 + d := by
  rw [UInt8.toNat_ofNat']
  omega
theorem Left.first (U : Nat) : Left U (U / 10) [UInt8.ofNat (48 + U % 10)] := by
  have hd := dig_byte (d := U % 10) (by omega)
  refine ⟨?_, ?_, fun _ => ⟨by simp, fun h => by simp at h⟩⟩
  · intro c hc
    rw [List.mem_singleton] at hc
    subst hc
    omega
  · rw [dv_cons, hd]
    simp [dv, dvF]
    omega
theorem Left.next {U u : Nat} {ds : List UInt8} (h : Left U u ds) (hu : 0 < u) : Left U (u / 10) (UInt8.ofNat (48 + u % 10) :: ds) := by
  have hd := dig_byte (d := u % 10) (by omega)
  refine ⟨?_, ?_, fun h0 => ⟨by simp, fun _ c r e => ?_⟩⟩
  · intro c hc
    rcases List.mem_cons.1 hc with rfl | hc
    · omega
    · exact h.dig c hc
  · rw [dv_cons, hd, List.length_cons, Nat.pow_succ, h.val]
    have e1 : u = u / 10 * 10 + u % 10 := by omega
    have e2 : u * 10 ^ ds.length = u / 10 * (10 ^ ds.length * 10) + u % 10 * 10 ^ ds.length := by
      rw [Nat.mul_comm (10 ^ ds.length) 10, ← Nat.mul_assoc, ← Nat.add_mul, ← e1]
    rw [e2, Nat.add_sub_cancel_left]
    omega
  · injection e with e1 e2
    subst e1
    omega
theorem Left.short {U u : Nat} {ds : List UInt8} (h : Left U u ds) (hu : 0 < u) (hU : U ≤ 9223372036854775808) : ds.length ≤ 18 := by
  rcases Nat.lt_or_ge 18 ds.length with h1 | h1
  · have h2 : (10 : Nat) ^ 19 ≤ 10 ^ ds.length := Nat.pow_le_pow_right (by omega) h1
    have h3 : (10 : Nat) ^ 19 = 10000000000000000000 := by decide
    have h4 : 1 * 10 ^ ds.length ≤ u * 10 ^ ds.length := Nat.mul_le_mul_right _ hu
    have := h.val
    omega
  · exact h1

/-- The buffer of 20 bytes, its last bytes ds. -/
structure BufInv (w : World) (ds : List UInt8) (wr : World) : Prop where
  bel : Below w.heap.size w wr
  size : wr.heap.size = w.heap.size + 1
  wri : ∀ j, j < 20 → (wr.cell? ⟨w.heap.size, j, none⟩).isSome = true ∧ wr.frozen? ⟨w.heap.size, j, none⟩ = false
  len : ds.length ≤ 20
  got : ∀ j, j < ds.length → wr.cell? ⟨w.heap.size, 20 - ds.length + j, none⟩ = some (.int .u8 (byteAt ds j))

theorem BufInv.start (w : World) (ty : TypeId) (X : Array Value) (hX : X.size = 20) : BufInv w [] (w.alloc (.cells X ty)) := by
  refine ⟨⟨rfl, rfl, rfl, by simp, fun k hk => Below.heap_alloc _ _ _ hk⟩, by simp, ?_, by simp, fun j hj => by simp at hj⟩
  intro j hj
  constructor
  · rw [World.cell?_alloc_at X ty _ _ rfl, Array.getElem?_eq_getElem (by omega)]; rfl
  · exact World.frozen?_alloc_at X ty _ _ rfl

theorem BufInv.step {w : World} {ds : List UInt8} {wr : World} (h : BufInv w ds wr) (hl : ds.length < 20) (c : UInt8) {i : Nat} (hi : i = 19 - ds.length) {x : Int} (hx : x = (c.toNat : Int)) :
    BufInv w (c :: ds) (wr.setCell ⟨w.heap.size, i, none⟩ (.int .u8 x)) := by
  subst hi hx
  obtain ⟨f1, f2, f3, f4, f5⟩ := setCells_facts w.heap.size [Value.int .u8 (c.toNat : Int)] (19 - ds.length) wr
  have hth : ∀ i, i < [Value.int .u8 (c.toNat : Int)].length → (wr.cell? ⟨w.heap.size, 19 - ds.length + i, none⟩).isSome = true := fun i hi => by
    have hi0 : i = 0 := by simp at hi; omega
    subst hi0
    exact (h.wri _ (by omega)).1
  refine ⟨⟨f1.trans h.bel.os, f2.trans h.bel.tape, f3.trans h.bel.output, by have := h.bel.size; have e := f4; show w.heap.size ≤ _; exact Nat.le_trans this (Nat.le_of_eq e.symm), fun g hg => (f5 g (by omega)).trans (h.bel.block g hg)⟩, f4.trans h.size, fun j hj => ⟨World.isSome_setCells w.heap.size [Value.int .u8 (c.toNat : Int)] (19 - ds.length) wr _ (h.wri j hj).1, (World.frozen?_setCells w.heap.size [Value.int .u8 (c.toNat : Int)] (19 - ds.length) wr _).trans (h.wri j hj).2⟩, by simp; omega, fun j hj => ?_⟩
  simp only [List.length_cons] at hj ⊢
  rcases j with _ | j
  · have := World.cell?_setCells_in w.heap.size [Value.int .u8 (c.toNat : Int)] (19 - ds.length) wr hth 0 (by simp)
    rw [show 20 - (ds.length + 1) + 0 = 19 - ds.length + 0 by omega]
    rw [show byteAt (c :: ds) 0 = (c.toNat : Int) from rfl]
    exact this
  · rw [show byteAt (c :: ds) (j + 1) = byteAt ds j by simp [byteAt], ← h.got j (by omega), show 20 - (ds.length + 1) + (j + 1) = 20 - ds.length + j by omega]
    exact World.cell?_setCells_out w.heap.size [Value.int .u8 (c.toNat : Int)] (19 - ds.length) wr ⟨w.heap.size, 20 - ds.length + j, none⟩ (fun _ _ => .inr (by show 19 - ds.length + 1 ≤ 20 - ds.length + j; omega))

theorem BufInv.start1 (w : World) (ty : TypeId) (X : Array Value) (hX : X.size = 20) (c : UInt8) {x : Int} (h19 : X[19]? = some (.int .u8 x)) (hx : x = (c.toNat : Int)) : BufInv w [c] (w.alloc (.cells X ty)) := by
  have h := BufInv.start w ty X hX
  refine ⟨h.bel, h.size, h.wri, by simp, fun j hj => ?_⟩
  have hj0 : j = 0 := by simp at hj; omega
  subst hj0
  show (w.alloc (.cells X ty)).cell? ⟨w.heap.size, 19, none⟩ = _
  rw [World.cell?_alloc_at X ty _ _ rfl, h19, hx]
  rfl

/-- .. in the walk's numbers. -/
def LeftZ (U : Nat) (u : Int) (ds : List UInt8) : Prop := 0 ≤ u ∧ Left U u.toNat ds
def dgt (u : Int) : UInt8 := UInt8.ofNat (48 + (u % 10).toNat)
theorem dgt_nat {u : Int} (h : 0 ≤ u) : 48 + u % 10 = ((dgt u).toNat : Int) := by
  have := dig_byte (d := (u % 10).toNat) (by omega)
  unfold dgt
  omega
theorem LeftZ.first {U : Nat} {n : Int} (h : (U : Int) = n) : LeftZ U (n / 10) [dgt n] := by
  have := Left.first U
  subst h
  refine ⟨by omega, ?_⟩
  unfold dgt
  rw [show ((U : Int) / 10).toNat = U / 10 by omega, show ((U : Int) % 10).toNat = U % 10 by omega]
  exact this
theorem LeftZ.next {U : Nat} {u : Int} {ds : List UInt8} (h : LeftZ U u ds) (hu : 0 < u) : LeftZ U (u / 10) (dgt u :: ds) := by
  obtain ⟨h0, h1⟩ := h
  have := h1.next (by omega)
  refine ⟨by omega, ?_⟩
  unfold dgt
  rw [show (u / 10).toNat = u.toNat / 10 by omega, show (u % 10).toNat = u.toNat % 10 by omega]
  exact this

/-- How zzB1Decimal ends: the digits of U behind a sign or none. -/
def DecQ (w : World) (U : Nat) (sgn : List UInt8) (e : Ending) (w' : World) : Prop :=
  ∃ g n ds, e = .returned (.slice (some ⟨g, 0, none⟩) n n) ∧ n = (sgn ++ ds).length ∧ n ≤ 21 ∧ Bytes w' g 0 (sgn ++ ds) ∧ Below w.heap.size w w' ∧ Dig ds ∧ Cn ds ∧ dv ds = U

theorem dec_end {w w2 wr : World} {U : Nat} {u : Int} {ds sgn : List UInt8} {n : Nat} (hb : BufInv w ds w2) (hl : LeftZ U u ds) (hu : ¬ 0 < u) (hm : MakeInv w2 n (sgn ++ ds) n wr) (hn : n = (sgn ++ ds).length) (h21 : n ≤ 21) :
    DecQ w U sgn (.returned (.slice (some ⟨w2.heap.size, 0, none⟩) n n)) wr := by
  obtain ⟨h0, h1⟩ := hl
  have hz : u.toNat = 0 := by omega
  refine ⟨_, n, ds, rfl, hn, h21, hm.bytes (by omega), hb.bel.trans (hm.bel.mono hb.bel.size), h1.dig, h1.can hz, ?_⟩
  have := h1.val
  rw [hz] at this
  omega


set_option maxRecDepth 10000 in
set_option maxHeartbeats 3200000 in
theorem decimal_pos (n : Int) (U : Nat) (hU : Hid ((U : Int) = n)) (h0 : 0 ≤ n) (h1 : n ≤ 9223372036854775807) (w : World) : Calls Tryd.prog 13 #[.int .i64 n] w (DecQ w U []) := by
  have hU1 : Hid (U ≤ 9223372036854775808) := hidIt (by have := hU.out; omega)
  go_enter Tryd.func13, Tryd.ntmps13
  go_wp2
  go_loopw [3, 5] (fun u i wr => ∃ (ds : List UInt8) (v : Int) (k : Nat), u = .int .u64 v ∧ i = .int .i64 k ∧ k ≤ 19 ∧ 0 ≤ v ∧ v ≤ 9223372036854775808 ∧ Hid (k + ds.length = 20) ∧ Hid (LeftZ U v ds) ∧ Hid (BufInv w ds wr)) (fun u _ _ => (intOf u).toNat)
  case atStart => exact ⟨[dgt (n)], n / 10, 19, rfl, rfl, by omega, by omega, by omega, rfl, LeftZ.first hU.out, BufInv.start1 w 33 _ rfl _ rfl (dgt_nat (by omega))⟩
  case round =>
    obtain ⟨ds, v, k, rfl, rfl, hk, hv0, hv1, HK, HL, HB⟩ := hrel
    by_cases hgo : 0 < v
    · have hk2 : 2 ≤ k := by
        have h1 := HK.out
        have h2 := HL.out.2.short (by omega) hU1.out
        omega
      obtain ⟨k, rfl⟩ : ∃ k', k = k' + 1 := ⟨k - 1, by omega⟩
      obtain ⟨c0, hc0⟩ := Option.isSome_iff_exists.1 (HB.out.wri k (by omega)).1
      have f0 := (HB.out.wri k (by omega)).2
      have HN := hidIt (HB.out.step (i := k) (by have := HK.out; omega) (dgt v) (by have := HK.out; omega) (dgt_nat hv0))
      have HLN := hidIt (HL.out.next hgo)
      have HKN : Hid (k + (dgt v :: ds).length = 20) := hidIt (by have := HK.out; simp only [List.length_cons]; omega)
      go_wp2
      go_roundw
      case rel => exact ⟨dgt v :: ds, v / 10, k, by go_num, by go_num, by omega, by omega, by omega, HKN, HLN, HN⟩
      case measure => simp [intOf]; omega
    · obtain ⟨m, hm⟩ : ∃ m, k + m = 20 := ⟨20 - k, by omega⟩
      have HM : Hid (m = ds.length) := hidIt (by have := HK.out; omega)
      have hmk : ∀ w, (Instr.makeSlice 22 (.int .i64 (20 - (k : Int))) (.int .i64 (20 - (k : Int)))).run Tryd.prog w = .ok (.slice (some ⟨w.heap.size, 0, none⟩) m m) (w.alloc (.cells (madeCells #[.int .u8 0] m) 5)) := fun w => by
        rw [show 20 - (k : Int) = ((m : Nat) : Int) by omega]
        exact make_bytes _ (by omega) w
      obtain ⟨w2, hw2⟩ : ∃ w2, w2 = wr := ⟨_, rfl⟩
      rw [← hw2] at HB ⊢
      clear hw2
      have HC := hidIt (MakeInv.start w2 m ([] ++ ds) 5 _ (size_madeCells #[.int .u8 0] m))
      go_wp2
      clear hmk
      go_loopw [7, 9] (fun j i wr => ∃ r : Nat, r ≤ m ∧ j = .int .i64 ((r : Int)) ∧ i = .int .i64 ((k : Int) + r) ∧ Hid (MakeInv w2 m ([] ++ ds) (r) wr)) (fun _ i _ => 20 - (intOf i).toNat)
      case atStart => exact ⟨0, Nat.zero_le _, by simp, by simp, HC.out⟩
      case round =>
        clear HC
        obtain ⟨r, hr, rfl, rfl, HI⟩ := hrel
        by_cases hlt : r < m
        · have gs : wr.cell? ⟨w.heap.size, k + r, none⟩ = some (.int .u8 (byteAt ds r)) := by
            have h1 := HB.out.got r (by rw [← HM.out]; exact hlt)
            have h2 := HK.out
            have h3 := HB.out.size
            rw [show 20 - ds.length + r = k + r by omega] at h1
            exact (World.cell?_of_block (w := w2) (w' := wr) (a := ⟨w.heap.size, k + r, none⟩) (HI.out.bel.block w.heap.size (by omega))).trans h1
          obtain ⟨c1, hc1⟩ := Option.isSome_iff_exists.1 (HI.out.wri (r) (by omega)).1
          have f1 := (HI.out.wri (r) (by omega)).2
          have HN := hidIt (HI.out.step (by omega))
          have eb : byteAt ([] ++ ds) (r) = byteAt ds r := by simp [byteAt]
          rw [eb] at HN
          clear eb
          obtain ⟨y, hy⟩ : ∃ y, y = byteAt ds r := ⟨_, rfl⟩
          rw [← hy] at gs HN
          clear hy
          go_wp2
          go_roundw
          case rel => exact ⟨r + 1, by omega, by go_num, by go_num, HN.out⟩
          case measure => simp [intOf]; omega
        · obtain rfl : m = r := by omega
          go_wp2
          go_ret
          exact dec_end HB.out HL.out (by omega) HI.out (by simp; have := HM.out; omega) (by omega)

set_option maxRecDepth 10000 in
set_option maxHeartbeats 3200000 in
theorem decimal_neg (n : Int) (U : Nat) (hU : Hid ((U : Int) = -n)) (h0 : n < 0) (h1 : -9223372036854775808 ≤ n) (w : World) : Calls Tryd.prog 13 #[.int .i64 n] w (DecQ w U [45]) := by
  have hU1 : Hid (U ≤ 9223372036854775808) := hidIt (by have := hU.out; omega)
  obtain ⟨q, hq⟩ : ∃ q, IntKind.u64.wrap n = q := ⟨_, rfl⟩
  obtain ⟨p, hp⟩ : ∃ p, IntKind.u64.wrap (-q) = p := ⟨_, rfl⟩
  have hpn : p = -n := by
    rw [IntKind.wrap_u64] at hq hp
    omega
  have hp0 : 0 < p := by omega
  have hp1 : p ≤ 9223372036854775808 := by omega
  replace hU : Hid ((U : Int) = p) := hidIt (by rw [hpn]; exact hU.out)
  clear hpn
  go_enter Tryd.func13, Tryd.ntmps13
  go_wp2
  go_loopw [3, 5] (fun u i wr => ∃ (ds : List UInt8) (v : Int) (k : Nat), u = .int .u64 v ∧ i = .int .i64 k ∧ k ≤ 19 ∧ 0 ≤ v ∧ v ≤ 9223372036854775808 ∧ Hid (k + ds.length = 20) ∧ Hid (LeftZ U v ds) ∧ Hid (BufInv w ds wr)) (fun u _ _ => (intOf u).toNat)
  case atStart => exact ⟨[dgt (p)], p / 10, 19, rfl, rfl, by omega, by omega, by omega, rfl, LeftZ.first hU.out, BufInv.start1 w 33 _ rfl _ rfl (dgt_nat (by omega))⟩
  case round =>
    obtain ⟨ds, v, k, rfl, rfl, hk, hv0, hv1, HK, HL, HB⟩ := hrel
    by_cases hgo : 0 < v
    · have hk2 : 2 ≤ k := by
        have h1 := HK.out
        have h2 := HL.out.2.short (by omega) hU1.out
        omega
      obtain ⟨k, rfl⟩ : ∃ k', k = k' + 1 := ⟨k - 1, by omega⟩
      obtain ⟨c0, hc0⟩ := Option.isSome_iff_exists.1 (HB.out.wri k (by omega)).1
      have f0 := (HB.out.wri k (by omega)).2
      have HN := hidIt (HB.out.step (i := k) (by have := HK.out; omega) (dgt v) (by have := HK.out; omega) (dgt_nat hv0))
      have HLN := hidIt (HL.out.next hgo)
      have HKN : Hid (k + (dgt v :: ds).length = 20) := hidIt (by have := HK.out; simp only [List.length_cons]; omega)
      go_wp2
      go_roundw
      case rel => exact ⟨dgt v :: ds, v / 10, k, by go_num, by go_num, by omega, by omega, by omega, HKN, HLN, HN⟩
      case measure => simp [intOf]; omega
    · obtain ⟨m, hm⟩ : ∃ m, k + m = 20 := ⟨20 - k, by omega⟩
      have HM : Hid (m = ds.length) := hidIt (by have := HK.out; omega)
      have hmk : ∀ w, (Instr.makeSlice 22 (.int .i64 (20 - (k : Int) + 1)) (.int .i64 (20 - (k : Int) + 1))).run Tryd.prog w = .ok (.slice (some ⟨w.heap.size, 0, none⟩) (m + 1) (m + 1)) (w.alloc (.cells (madeCells #[.int .u8 0] (m + 1)) 5)) := fun w => by
        rw [show 20 - (k : Int) + 1 = (((m + 1) : Nat) : Int) by omega]
        exact make_bytes _ (by omega) w
      obtain ⟨w2, hw2⟩ : ∃ w2, w2 = wr := ⟨_, rfl⟩
      rw [← hw2] at HB ⊢
      clear hw2
      obtain ⟨X, hX⟩ : ∃ X, X = madeCells #[Value.int .u8 0] (m + 1) := ⟨_, rfl⟩
      have hXs : X.size = m + 1 := by rw [hX]; exact size_madeCells _ _
      rw [← hX] at hmk
      clear hX
      have HC := hidIt (MakeInv.start1 w2 (m + 1) ([45] ++ ds) 5 X hXs (by omega) 45 rfl)
      obtain ⟨cX, hcX⟩ : ∃ c0, X[0]? = some c0 := ⟨X[0]'(by omega), Array.getElem?_eq_getElem _⟩
      go_wp2
      clear hmk
      go_loopw [7, 9] (fun j i wr => ∃ r : Nat, r ≤ m ∧ j = .int .i64 ((r : Int) + 1) ∧ i = .int .i64 ((k : Int) + r) ∧ Hid (MakeInv w2 (m + 1) ([45] ++ ds) (r + 1) wr)) (fun _ i _ => 20 - (intOf i).toNat)
      case atStart => exact ⟨0, Nat.zero_le _, by simp, by simp, HC.out⟩
      case round =>
        clear HC
        obtain ⟨r, hr, rfl, rfl, HI⟩ := hrel
        by_cases hlt : r < m
        · have gs : wr.cell? ⟨w.heap.size, k + r, none⟩ = some (.int .u8 (byteAt ds r)) := by
            have h1 := HB.out.got r (by rw [← HM.out]; exact hlt)
            have h2 := HK.out
            have h3 := HB.out.size
            rw [show 20 - ds.length + r = k + r by omega] at h1
            exact (World.cell?_of_block (w := w2) (w' := wr) (a := ⟨w.heap.size, k + r, none⟩) (HI.out.bel.block w.heap.size (by omega))).trans h1
          obtain ⟨c1, hc1⟩ := Option.isSome_iff_exists.1 (HI.out.wri (r + 1) (by omega)).1
          have f1 := (HI.out.wri (r + 1) (by omega)).2
          have HN := hidIt (HI.out.step (by omega))
          have eb : byteAt ([45] ++ ds) (r + 1) = byteAt ds r := by simp [byteAt]
          rw [eb] at HN
          clear eb
          obtain ⟨y, hy⟩ : ∃ y, y = byteAt ds r := ⟨_, rfl⟩
          rw [← hy] at gs HN
          clear hy
          go_wp2
          go_roundw
          case rel => exact ⟨r + 1, by omega, by go_num, by go_num, HN.out⟩
          case measure => simp [intOf]; omega
        · obtain rfl : m = r := by omega
          go_wp2
          go_ret
          exact dec_end HB.out HL.out (by omega) HI.out (by simp; have := HM.out; omega) (by omega)

end Go.Proofs.Qxb6617284aDoor
