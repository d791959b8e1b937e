/-
  The law's argument, opened: a pointer to Since and Made, each step's ten cells, the bytes of Value and Read.
-/
import Derived.Test.Qxb6617334aFull
import Derived.ProofKit
import Derived.OpenShut
import Derived.ChangeOld
import Derived.Deep.FieldsWide
import Derived.Deep.Slices
namespace Go.Proofs.Qxb6617334a
set_option linter.unusedVariables false
open Go.ChangeShapes Go.WideShapes Go.ChangeAt Go.RowKit Go.Deep

theorem Try.own : ownKnob Try.prog.godebug = none := by kernel_rfl
theorem Try.laidOut : laidOutB Try.prog = true := by kernel_rfl
theorem Try.cells38 : Try.prog.cellsOf 38 = 5 := by kernel_rfl
theorem Try.cells35 : Try.prog.cellsOf 35 = 4 := by kernel_rfl
theorem Try.cells36 : Try.prog.cellsOf 36 = 1 := by kernel_rfl
theorem Try.cells22 : Try.prog.cellsOf 22 = 1 := by kernel_rfl
theorem Try.cells41 : Try.prog.cellsOf 41 = 10 := by kernel_rfl
theorem Try.cells5 : Try.prog.cellsOf 5 = 1 := by kernel_rfl
theorem Try.cells39 : Try.prog.cellsOf 39 = 1 := by kernel_rfl

section
variable {H : Type} {enc : TypeId × Value → H} {W : World}

/-- A slice of bytes. -/
theorem open39 {fuel : Nat} {v : Value} {y : DataW H × List MemPlace} (h : DataW.trod enc Try.prog W 0 (fun _ => true) true fuel 39 [v] = some y) : ∃ a n c, v = .slice a n c ∧ Rdb W a n := by
  rcases open_ints Try.underlying39 Try.underlying5 Try.cells5 h with ⟨hcs, _⟩ | ⟨x, l, c, zs, hcs, _, hl, hm, hz, _, hcell, _⟩
  · obtain rfl : v = .slice none 0 0 := by simpa using hcs
    exact ⟨none, 0, 0, rfl, by omega, fun h => by omega⟩
  · obtain rfl : v = .slice (some x) l c := by simpa using hcs
    have hz' : zs.length = c := by simpa using hz
    have hm' : c ≤ 9223372036854775807 := by simpa [maxLen] using hm
    refine ⟨some x, l, c, rfl, by omega, fun h0 => ?_⟩
    obtain ⟨b, o, spot⟩ := x
    have hspot : spot = none := by simpa [Addr.add] using World.cell?_spot (hcell 0 (by omega))
    subst hspot
    refine ⟨b, o, rfl, fun j hj => ?_⟩
    have := hcell j (by omega)
    rw [add_plain] at this
    exact ⟨_, this⟩

/-- A version's four cells. -/
theorem open35 {fuel : Nat} {cs : List Value} {y : DataW H × List MemPlace} (h : DataW.trod enc Try.prog W 0 (fun _ => true) true fuel 35 cs = some y) : ∃ c cl b s, cs = [.int .u64 c, .int .u64 cl, .int .u64 b, .int .u64 s] := by
  obtain ⟨xs, n, _, _, hl, hx, hf⟩ := DataW.trod_struct Try.underlying35 h
  rw [Try.cells35] at hl
  match xs, hx, cs, hl with
  | [y0, y1, y2, y3], _, [v0, v1, v2, v3], _ =>
    have g0 := hf 0 _ rfl
    have g1 := hf 1 _ rfl
    have g2 := hf 2 _ rfl
    have g3 := hf 3 _ rfl
    simp [Try.cells22] at g0 g1 g2 g3
    obtain ⟨c, e0, _⟩ := DataW.trod_int Try.underlying22 g0
    obtain ⟨cl, e1, _⟩ := DataW.trod_int Try.underlying22 g1
    obtain ⟨b, e2, _⟩ := DataW.trod_int Try.underlying22 g2
    obtain ⟨s, e3, _⟩ := DataW.trod_int Try.underlying22 g3
    simp at e0 e1 e2 e3
    exact ⟨c, cl, b, s, by rw [e0, e1, e2, e3]⟩

/-- A step's ten cells. -/
theorem open41 {fuel : Nat} {cs : List Value} {y : DataW H × List MemPlace} (h : DataW.trod enc Try.prog W 0 (fun _ => true) true fuel 41 cs = some y) :
    ∃ x : St, cs = [.int .u64 x.c, .int .u64 x.cl, .int .u64 x.b, .int .u64 x.s, .int .u64 x.ses, .int .u64 x.seq, .int .u64 x.stp, .int .u8 x.op, .slice x.va x.vl x.vc, .slice x.ra x.rl x.rc] ∧ Rdb W x.va x.vl ∧ Rdb W x.ra x.rl := by
  obtain ⟨xs, n, _, _, hl, hx, hf⟩ := DataW.trod_struct Try.underlying41 h
  rw [Try.cells41] at hl
  match xs, hx, cs, hl with
  | [y0, y1, y2, y3, y4, y5, y6], _, [v0, v1, v2, v3, v4, v5, v6, v7, v8, v9], _ =>
    have g0 := hf 0 _ rfl
    have g1 := hf 1 _ rfl
    have g2 := hf 2 _ rfl
    have g3 := hf 3 _ rfl
    have g4 := hf 4 _ rfl
    have g5 := hf 5 _ rfl
    have g6 := hf 6 _ rfl
    simp [Try.cells22, Try.cells35, Try.cells5, Try.cells39] at g0 g1 g2 g3 g4 g5 g6
    obtain ⟨c, cl, b, s, e0⟩ := open35 g0
    obtain ⟨ses, e1, _⟩ := DataW.trod_int Try.underlying22 g1
    obtain ⟨seq, e2, _⟩ := DataW.trod_int Try.underlying22 g2
    obtain ⟨stp, e3, _⟩ := DataW.trod_int Try.underlying22 g3
    obtain ⟨op, e4, _⟩ := DataW.trod_int Try.underlying5 g4
    obtain ⟨va, vl, vc, rfl, r1⟩ := open39 g5
    obtain ⟨ra, rl, rc, rfl, r2⟩ := open39 g6
    simp at e0 e1 e2 e3 e4
    obtain ⟨rfl, rfl, rfl, rfl⟩ := e0
    exact ⟨⟨c, cl, b, s, ses, seq, stp, op, va, vl, vc, ra, rl, rc⟩, by simp [e1, e2, e3, e4], r1, r2⟩

/-- A slice of steps. -/
theorem open36 {fuel : Nat} {v : Value} {y : DataW H × List MemPlace} (h : DataW.trod enc Try.prog W 0 (fun _ => true) true fuel 36 [v] = some y) :
    ∃ a n c X, v = .slice a n c ∧ n ≤ 9223372036854775807 ∧ (a = none → n = 0 ∧ c = 0) ∧ (0 < n → ∃ b o, a = some ⟨b, o, none⟩ ∧ Steps W b o n X) ∧ ∀ j, j < n → Rdb W (X j).va (X j).vl ∧ Rdb W (X j).ra (X j).rl := by
  rcases open_slice Try.underlying36 h with ⟨hcs, _⟩ | ⟨x, l, c, m, k, D, Pl, hcs, _, hl, hm, hmm, _, hall⟩
  · obtain rfl : v = .slice none 0 0 := by simpa using hcs
    exact ⟨none, 0, 0, fun _ => ⟨0, 0, 0, 0, 0, 0, 0, 0, none, 0, 0, none, 0, 0⟩, rfl, by omega, fun _ => ⟨rfl, rfl⟩, fun h => by omega, fun j hj => by omega⟩
  · obtain rfl : v = .slice (some x) l c := by simpa using hcs
    have hm' : c ≤ 9223372036854775807 := by simpa [maxLen] using hm
    have hmc : m = c := by simpa using hmm
    subst hmc
    have each : ∀ i, i < l → ∃ s : St, (∀ j, j < 10 → W.cell? (x.add (i * 10 + j)) = [Value.int .u64 s.c, .int .u64 s.cl, .int .u64 s.b, .int .u64 s.s, .int .u64 s.ses, .int .u64 s.seq, .int .u64 s.stp, .int .u8 s.op, .slice s.va s.vl s.vc, .slice s.ra s.rl s.rc][j]?) ∧ Rdb W s.va s.vl ∧ Rdb W s.ra s.rl := by
      intro i hi
      obtain ⟨cs', h1, h2⟩ := hall i (by omega)
      rw [Try.cells41] at h1
      obtain ⟨_, _, hcell⟩ := World.cells?_some h1
      obtain ⟨s, rfl, r1, r2⟩ := open41 h2
      refine ⟨s, fun j hj => ?_, r1, r2⟩
      have := hcell j hj
      rwa [add_add] at this
    refine ⟨some x, l, m, fun i => if hi : i < l then Classical.choose (each i hi) else ⟨0, 0, 0, 0, 0, 0, 0, 0, none, 0, 0, none, 0, 0⟩, rfl, by omega, (fun h => by cases h), fun h0 => ?_, fun j hj => ?_⟩
    · obtain ⟨b, o, spot⟩ := x
      have hspot : spot = none := by simpa [Addr.add] using World.cell?_spot ((Classical.choose_spec (each 0 h0)).1 0 (by omega))
      subst hspot
      refine ⟨b, o, rfl, fun j hj => ?_⟩
      obtain ⟨hc, _⟩ := Classical.choose_spec (each j hj)
      dsimp only
      rw [dif_pos hj]
      generalize Classical.choose (each j hj) = s at hc
      simp only [add_plain] at hc
      exact ⟨by simpa using hc 0 (by omega), by simpa [Nat.add_assoc] using hc 1 (by omega), by simpa [Nat.add_assoc] using hc 2 (by omega), by simpa [Nat.add_assoc] using hc 3 (by omega), by simpa [Nat.add_assoc] using hc 4 (by omega),
        by simpa [Nat.add_assoc] using hc 5 (by omega), by simpa [Nat.add_assoc] using hc 6 (by omega), by simpa [Nat.add_assoc] using hc 7 (by omega), by simpa [Nat.add_assoc] using hc 8 (by omega), by simpa [Nat.add_assoc] using hc 9 (by omega)⟩
    · dsimp only
      rw [dif_pos hj]
      exact (Classical.choose_spec (each j hj)).2

theorem law_any {v : Value} {d : DataW H} {ps : List MemPlace} (h : DataW.Trod enc Try.prog W 0 (fun _ => true) true 28 v d ps) (hv : ∃ a, v = .pointer a) (h0 h1 h2 h3 : Int) :
    Calls Try.prog 5 #[v, .int .u64 h0, .int .u64 h1, .int .u64 h2, .int .u64 h3] W fun e w' => e = .returned (.bool true) ∧ Below W.heap.size W w' := by
  obtain ⟨ad, rfl⟩ := hv
  obtain ⟨fuel, hf⟩ := h
  rcases open_ptr_wide2 Try.underlying28 Try.underlying38 (by rw [Try.cells38]; omega) hf with ⟨hcs, _⟩ | ⟨p, q, n, cs', y0, y1, hcs, _, _, hlen, hcell, t0, t1⟩
  · simp [Value.cells] at hcs
    subst hcs
    exact law_nil h0 h1 h2 h3 W
  · simp [Value.cells] at hcs
    subst hcs
    rw [Try.cells38] at hlen hcell
    match cs', hlen with
    | [v0, v1, v2, v3, v4], _ =>
      simp [Try.cells35, Try.cells36] at t0 t1
      obtain ⟨s0, s1, s2, s3, e0⟩ := open35 t0
      obtain ⟨a, n, c, X, rfl, hn, hz, hS, hR⟩ := open36 t1
      simp at e0
      obtain ⟨rfl, rfl, rfl, rfl⟩ := e0
      have hH : Head W p q s0 s1 s2 s3 a n c := ⟨by simpa using hcell 0 (by omega), by simpa using hcell 1 (by omega), by simpa using hcell 2 (by omega), by simpa using hcell 3 (by omega), by simpa using hcell 4 (by omega)⟩
      have hM : Mid W p q s0 s1 s2 s3 a n c X W := ⟨Below.refl _ _, hH, hS, hR⟩
      have hl : ∀ j, j < n → (X j).vl ≤ 9223372036854775807 ∧ (X j).rl ≤ 9223372036854775807 := fun j hj => ⟨(hR j hj).1.1, (hR j hj).2.1⟩
      have H12 : n ≤ 16384 → ∃ a', Calls Try.prog 12 #[.pointer (some ⟨p, q, none⟩)] W (WireQ W s0 s1 s2 s3 a' n X) := by
        intro hN
        cases a with
        | none =>
          obtain ⟨rfl, rfl⟩ := hz rfl
          exact ⟨_, wire_none hH X⟩
        | some a => exact ⟨_, wire_some hH hN (fun hp => let ⟨b, o, e, hS'⟩ := hS hp; ⟨b, o, by simpa using e, hS'⟩)⟩
      by_cases hev : ev h0 h1 h2 h3 s0 s1 s2 s3 = true
      · obtain ⟨rfl, rfl, rfl, rfl⟩ := ev_true hev
        exact law_since hM hn hl H12
      · exact law_ne hM hn hl (by simpa using hev) H12
end
end Go.Proofs.Qxb6617334a
