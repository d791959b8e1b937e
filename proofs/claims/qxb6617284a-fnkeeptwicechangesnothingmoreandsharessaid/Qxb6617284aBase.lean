/-
  The words that this seat's walks share: a slice of int64 that reads as a list; plain facts on lists. No Go function is walked here.
-/
import Derived.Test.Qxb6617284aRows
import Derived.WalkKit
import Derived.WalkSpells
import Derived.WalkLawsBesides
import Derived.Deep.QuietTactic
import Derived.BigQuiet
import Derived.Deep.LoopGhost
import Derived.Deep.OwnRows
namespace Go.Proofs.Qxb6617284a
set_option linter.unusedVariables false
open Go.RowKit

theorem Try.cells2 : Try.prog.cellsOf 2 = 1 := by kernel_rfl
theorem Try.cells22 : Try.prog.cellsOf 22 = 1 := by kernel_rfl
theorem Try.info2 : (Try.prog.info? 2).map (fun i => (i.zero, i.size, i.bytes)) = some (some (.int .i64 0), 1, 8) := by kernel_rfl
theorem Try.info22 : (Try.prog.info? 22).map (fun i => (i.zero, i.size, i.bytes)) = some (some (.slice none 0 0), 1, 24) := by kernel_rfl

/-- The slice value v reads, in w, as the list xs of int64s. -/
def Rd (w : World) (v : Value) (xs : List Int) : Prop :=
  ∃ (a : Option Addr) (c : Nat), v = .slice a xs.length c ∧ xs.length ≤ c ∧ c ≤ 9223372036854775807 ∧
    (xs ≠ [] → ∃ b o, a = some ⟨b, o, none⟩ ∧ ∀ j, j < xs.length → w.cell? ⟨b, o + j, none⟩ = some (.int .i64 (xs[j]?.getD 0)))

theorem take_succ_eq {xs ys : List Int} {k : Nat} (h : xs.take k = ys.take k) (hx : k < xs.length) (hy : k < ys.length) (e : xs[k]?.getD 0 = ys[k]?.getD 0) : xs.take (k + 1) = ys.take (k + 1) := by
  rw [List.take_succ_eq_append_getElem hx, List.take_succ_eq_append_getElem hy, h]
  simp [List.getElem?_eq_getElem hx, List.getElem?_eq_getElem hy] at e
  rw [e]

theorem ne_of_at {xs ys : List Int} {k : Nat} (e : ¬ xs[k]?.getD 0 = ys[k]?.getD 0) : xs ≠ ys := by
  intro h; subst h; exact e rfl

/-- The cells of a list of int64s. -/
def ints (xs : List Int) : Array Value := (xs.map (Value.int .i64)).toArray

theorem ints_size (xs : List Int) : (ints xs).size = xs.length := by simp [ints]
theorem ints_get {xs : List Int} {j : Nat} (h : j < xs.length) : (ints xs)[j]? = some (.int .i64 (xs[j]?.getD 0)) := by
  simp [ints, List.getElem?_eq_getElem h]

/-- The first k cells copied, the rest nought: what a copying loop has made after k rounds. -/
def part (xs : List Int) (k : Nat) : Array Value := ints (xs.take k ++ List.replicate (xs.length - k) 0)

theorem part_size {xs : List Int} {k : Nat} (h : k ≤ xs.length) : (part xs k).size = xs.length := by
  simp [part, ints_size]; omega
theorem part_zero (xs : List Int) : part xs 0 = madeCells #[.int .i64 0] xs.length := by
  apply Array.ext
  · simp [part, ints_size, size_madeCells]
  · intro i h1 h2
    simp [part, ints, madeCells, Nat.mod_one]
theorem part_full (xs : List Int) : part xs xs.length = ints xs := by simp [part]
theorem part_at {xs : List Int} {k : Nat} (h : k < xs.length) : (part xs k)[k]? = some (.int .i64 0) := by
  have hl : (xs.take k).length = k := by simp; omega
  have h1 : (xs.take k ++ List.replicate (xs.length - k) 0)[k]? = some 0 := by
    rw [List.getElem?_append_right (Nat.le_of_eq hl), hl, Nat.sub_self, List.getElem?_replicate, if_pos (by omega)]
  unfold part ints
  rw [List.getElem?_toArray, List.getElem?_map, h1]
  rfl
theorem part_succ {xs : List Int} {k : Nat} (h : k < xs.length) : (part xs k).setIfInBounds k (.int .i64 (xs[k]?.getD 0)) = part xs (k + 1) := by
  have hl : (xs.take k).length = k := by simp; omega
  have h1 : (xs.take k ++ List.replicate (xs.length - k) (0 : Int)).set k (xs[k]?.getD 0) = xs.take (k + 1) ++ List.replicate (xs.length - (k + 1)) 0 := by
    obtain ⟨m, hm⟩ : ∃ m, xs.length - k = m + 1 := ⟨xs.length - k - 1, by omega⟩
    have hm' : xs.length - (k + 1) = m := by omega
    have hg : xs[k]?.getD 0 = xs[k] := by simp [List.getElem?_eq_getElem h]
    rw [List.set_append_right _ _ (Nat.le_of_eq hl), hl, Nat.sub_self, hm, hm', List.replicate_succ, List.set_cons_zero, List.take_succ_eq_append_getElem h, hg, List.append_assoc]
    rfl
  unfold part ints
  rw [← h1, List.setIfInBounds_toArray, List.map_set]

end Go.Proofs.Qxb6617284a
