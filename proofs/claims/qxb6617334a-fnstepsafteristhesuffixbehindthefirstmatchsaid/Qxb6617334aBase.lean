/-
  The words that this seat's walks share: a step's ten cells, steps in a row, the struct behind the pointer; the readers zzBytes (10), stepsTooBig (11).
-/
import Derived.Test.Qxb6617334aRows
import Derived.WalkKit
import Derived.WalkSpells
import Derived.WalkLawsBesides
import Derived.Deep.QuietTactic
import Derived.BigQuiet
import Derived.Deep.LoopGhost
import Derived.Deep.OwnRows
import Derived.Deep.MidRow
namespace Go.Proofs.Qxb6617334a
set_option linter.unusedVariables false
open Go.RowKit Go.Deep

theorem hidIt {p : Prop} (h : p) : Hid p := h
theorem below_drew (w : World) (n : Nat) : Below w.heap.size w (w.drewN n) := ⟨rfl, rfl, rfl, Nat.le_refl _, fun _ _ => rfl⟩

/-- A step as its ten cells hold it. -/
structure St where
  c : Int
  cl : Int
  b : Int
  s : Int
  ses : Int
  seq : Int
  stp : Int
  op : Int
  va : Option Addr
  vl : Nat
  vc : Nat
  ra : Option Addr
  rl : Nat
  rc : Nat

/-- The step x lies in block b from offset o on. -/
structure At (w : World) (b o : Nat) (x : St) : Prop where
  c0 : w.cell? ⟨b, o, none⟩ = some (.int .u64 x.c)
  c1 : w.cell? ⟨b, o + 1, none⟩ = some (.int .u64 x.cl)
  c2 : w.cell? ⟨b, o + 2, none⟩ = some (.int .u64 x.b)
  c3 : w.cell? ⟨b, o + 3, none⟩ = some (.int .u64 x.s)
  c4 : w.cell? ⟨b, o + 4, none⟩ = some (.int .u64 x.ses)
  c5 : w.cell? ⟨b, o + 5, none⟩ = some (.int .u64 x.seq)
  c6 : w.cell? ⟨b, o + 6, none⟩ = some (.int .u64 x.stp)
  c7 : w.cell? ⟨b, o + 7, none⟩ = some (.int .u8 x.op)
  c8 : w.cell? ⟨b, o + 8, none⟩ = some (.slice x.va x.vl x.vc)
  c9 : w.cell? ⟨b, o + 9, none⟩ = some (.slice x.ra x.rl x.rc)

/-- n steps lie in block b from offset o on. -/
def Steps (w : World) (b o n : Nat) (X : Nat → St) : Prop := ∀ j, j < n → At w b (o + j * 10) (X j)

theorem At.kept {w w' : World} {b o : Nat} {x : St} (h : At w b o x) (hb : w'.heap[b]? = w.heap[b]?) : At w' b o x := by
  have k : ∀ i v, w.cell? ⟨b, i, none⟩ = some v → w'.cell? ⟨b, i, none⟩ = some v := fun i v hv => (World.cell?_of_block (w := w) (w' := w') (a := ⟨b, i, none⟩) hb).trans hv
  exact ⟨k _ _ h.c0, k _ _ h.c1, k _ _ h.c2, k _ _ h.c3, k _ _ h.c4, k _ _ h.c5, k _ _ h.c6, k _ _ h.c7, k _ _ h.c8, k _ _ h.c9⟩
theorem Steps.kept {w w' : World} {b o n : Nat} {X : Nat → St} (h : Steps w b o n X) (hb : w'.heap[b]? = w.heap[b]?) : Steps w' b o n X := fun j hj => (h j hj).kept hb

/-- The struct behind the pointer: Since in four cells, Made in one. -/
structure Head (w : World) (p q : Nat) (s0 s1 s2 s3 : Int) (a : Option Addr) (n c : Nat) : Prop where
  h0 : w.cell? ⟨p, q, none⟩ = some (.int .u64 s0)
  h1 : w.cell? ⟨p, q + 1, none⟩ = some (.int .u64 s1)
  h2 : w.cell? ⟨p, q + 2, none⟩ = some (.int .u64 s2)
  h3 : w.cell? ⟨p, q + 3, none⟩ = some (.int .u64 s3)
  h4 : w.cell? ⟨p, q + 4, none⟩ = some (.slice a n c)

theorem Head.kept {w w' : World} {p q : Nat} {s0 s1 s2 s3 : Int} {a : Option Addr} {n c : Nat} (h : Head w p q s0 s1 s2 s3 a n c) (hb : w'.heap[p]? = w.heap[p]?) : Head w' p q s0 s1 s2 s3 a n c := by
  have k : ∀ i v, w.cell? ⟨p, i, none⟩ = some v → w'.cell? ⟨p, i, none⟩ = some v := fun i v hv => (World.cell?_of_block (w := w) (w' := w') (a := ⟨p, i, none⟩) hb).trans hv
  exact ⟨k _ _ h.h0, k _ _ h.h1, k _ _ h.h2, k _ _ h.h3, k _ _ h.h4⟩

/-- A bool, and what it says if it is r0. -/
def SayQ (r0 : Bool) (P : Prop) (e : Ending) : Prop := ∃ r : Bool, e = .returned (.bool r) ∧ (r = r0 → P)

set_option maxHeartbeats 1600000 in
theorem bytes_full {w : World} {p q : Nat} {s0 s1 s2 s3 : Int} {a : Option Addr} {n c : Nat} {X : Nat → St} (h : Head w p q s0 s1 s2 s3 a n c) (hX : 0 < n → ∃ b o, a = some ⟨b, o, none⟩ ∧ Steps w b o n X) (hn : n ≤ 9223372036854775807)
    (hl : ∀ j, j < n → (X j).vl ≤ 9223372036854775807 ∧ (X j).rl ≤ 9223372036854775807) (v1 v2 v3 v4 : Int) :
    Calls Try.prog 10 #[.pointer (some ⟨p, q, none⟩), .int .u64 v1, .int .u64 v2, .int .u64 v3, .int .u64 v4] w fun e w' => SayQ true True e ∧ w' = w := by
  have h4 := h.h4
  have HX := hidIt hX
  have HL := hidIt hl
  clear h hX hl
  by_cases t : 1048576 < n
  · go_enter Try.func10, Try.ntmps10
    go_wp2
    go_ret
    exact ⟨⟨false, rfl, fun _ => trivial⟩, rfl⟩
  go_enter Try.func10, Try.ntmps10
  go_wp2
  go_loop [11, 12] (fun t i => ∃ (k : Nat) (s : Int), k ≤ n ∧ 0 ≤ s ∧ s ≤ 1048576 ∧ i = .int .i64 k ∧ t = .int .i64 s) (fun _ i => n - (intOf i).toNat)
  case atStart => exact ⟨0, (n : Int), Nat.zero_le _, by omega, by omega, rfl, rfl⟩
  case round =>
    obtain ⟨k, s, hk, hs0, hs1, rfl, rfl⟩ := hrel
    by_cases hlt : k < n
    · obtain ⟨b, o, rfl, hS⟩ := HX.out (by omega)
      have g8 := (hS k hlt).c8
      have g9 := (hS k hlt).c9
      obtain ⟨l1, l2⟩ := HL.out k hlt
      clear hS
      generalize X k = x at g8 g9 l1 l2
      obtain ⟨_, _, _, _, _, _, _, _, va, vl, vc, ra, rl, rc⟩ := x
      simp only at g8 g9 l1 l2
      by_cases b1 : 1048576 < vl
      · go_wp2
        go_ret
        exact ⟨⟨false, rfl, fun _ => trivial⟩, rfl⟩
      by_cases b2 : 1048576 < s + vl
      · go_wp2
        go_ret
        exact ⟨⟨false, rfl, fun _ => trivial⟩, rfl⟩
      by_cases b3 : 1048576 < rl
      · go_wp2
        go_ret
        exact ⟨⟨false, rfl, fun _ => trivial⟩, rfl⟩
      by_cases b4 : 1048576 < s + vl + rl
      · go_wp2
        go_ret
        exact ⟨⟨false, rfl, fun _ => trivial⟩, rfl⟩
      · go_wp2
        go_round
        case rel => exact ⟨k + 1, s + vl + rl, by omega, by omega, by omega, by go_num, by go_num⟩
        case measure => simp [intOf]; omega
    · go_wp2
      go_ret
      exact ⟨⟨true, rfl, fun _ => trivial⟩, rfl⟩

set_option maxHeartbeats 400000 in
theorem bytes_nil (w : World) (v1 v2 v3 v4 : Int) : Calls Try.prog 10 #[.pointer none, .int .u64 v1, .int .u64 v2, .int .u64 v3, .int .u64 v4] w fun e w' => SayQ true True e ∧ w' = w := by
  go_enter Try.func10, Try.ntmps10
  go_wp2
  go_ret
  exact ⟨⟨true, rfl, fun _ => trivial⟩, rfl⟩

set_option maxHeartbeats 400000 in
theorem big_nil (w : World) : Calls Try.prog 11 #[.pointer none] w fun e w' => e = .returned (.bool false) ∧ w' = w := by
  go_enter Try.func11, Try.ntmps11
  go_wp2
  go_ret
  exact ⟨rfl, rfl⟩

set_option maxHeartbeats 1600000 in
theorem big_full {w : World} {p q : Nat} {s0 s1 s2 s3 : Int} {a : Option Addr} {n c : Nat} {X : Nat → St} (h : Head w p q s0 s1 s2 s3 a n c) (hX : 0 < n → ∃ b o, a = some ⟨b, o, none⟩ ∧ Steps w b o n X) (hn : n ≤ 9223372036854775807)
    (hl : ∀ j, j < n → (X j).vl ≤ 9223372036854775807 ∧ (X j).rl ≤ 9223372036854775807) :
    Calls Try.prog 11 #[.pointer (some ⟨p, q, none⟩)] w fun e w' => SayQ false (n ≤ 16384) e ∧ w' = w := by
  have h4 := h.h4
  have HX := hidIt hX
  have HL := hidIt hl
  clear h hX hl
  by_cases t : 16384 < n
  · go_enter Try.func11, Try.ntmps11
    go_wp2
    go_ret
    exact ⟨⟨true, rfl, fun h => by cases h⟩, rfl⟩
  go_enter Try.func11, Try.ntmps11
  go_wp2
  go_loop [3, 4] (fun t i => ∃ (k : Nat) (s : Int), k ≤ n ∧ 0 ≤ s ∧ s ≤ 1048576 ∧ i = .int .i64 k ∧ t = .int .i64 s) (fun _ i => n - (intOf i).toNat)
  case atStart => exact ⟨0, 0, Nat.zero_le _, by omega, by omega, rfl, rfl⟩
  case round =>
    obtain ⟨k, s, hk, hs0, hs1, rfl, rfl⟩ := hrel
    by_cases hlt : k < n
    · obtain ⟨b, o, rfl, hS⟩ := HX.out (by omega)
      have g8 := (hS k hlt).c8
      have g9 := (hS k hlt).c9
      obtain ⟨l1, l2⟩ := HL.out k hlt
      clear hS
      generalize X k = x at g8 g9 l1 l2
      obtain ⟨_, _, _, _, _, _, _, _, va, vl, vc, ra, rl, rc⟩ := x
      simp only at g8 g9 l1 l2
      by_cases b1 : 1048576 < s + 112
      · go_wp2
        go_ret
        exact ⟨⟨true, rfl, fun h => by cases h⟩, rfl⟩
      by_cases b2 : 1048576 - (s + 112) < vl
      · go_wp2
        go_ret
        exact ⟨⟨true, rfl, fun h => by cases h⟩, rfl⟩
      by_cases b3 : 1048576 - (s + 112 + vl) < rl
      · go_wp2
        go_ret
        exact ⟨⟨true, rfl, fun h => by cases h⟩, rfl⟩
      · go_wp2
        go_round
        case rel => exact ⟨k + 1, s + 112 + vl + rl, by omega, by omega, by omega, by go_num, by go_num⟩
        case measure => simp [intOf]; omega
    · go_wp2
      go_ret
      exact ⟨⟨false, rfl, fun _ => by omega⟩, rfl⟩

end Go.Proofs.Qxb6617334a
