/-
  The words that this seat's walks share: a slice of records (a string, an int) that reads as two families. No Go function is walked here.
-/
import Derived.Test.Qxb6617509aRows
import Derived.WalkKit
import Derived.WalkSpells
import Derived.WalkLawsBesides
import Derived.Deep.QuietTactic
import Derived.BigQuiet
import Derived.Deep.LoopGhost
import Derived.Deep.OwnRows
import Derived.Deep.MidRow
import Derived.Deep.AppendLies
namespace Go.Proofs.Qxb6617509a
set_option linter.unusedVariables false
open Go.RowKit Go.Deep

theorem Try.cells22 : Try.prog.cellsOf 22 = 1 := by kernel_rfl
theorem Try.cells25 : Try.prog.cellsOf 25 = 2 := by kernel_rfl
theorem Try.cells9 : Try.prog.cellsOf 9 = 1 := by kernel_rfl
theorem Try.cells3 : Try.prog.cellsOf 3 = 1 := by kernel_rfl
theorem Try.info25 : (Try.prog.info? 25).map (fun i => (i.zero, i.size, i.bytes)) = some (some (.agg #[.string "".toUTF8, .int .i64 0]), 2, 24) := by kernel_rfl
theorem Try.info28 : (Try.prog.info? 28).map (fun i => (i.zero, i.size, i.bytes)) = some (some (.agg #[.string "".toUTF8, .int .i64 0]), 2, 24) := by kernel_rfl
theorem Try.size25 : (Try.prog.info? 25).map (·.size) = some 2 := by kernel_rfl
theorem Try.size28 : (Try.prog.info? 28).map (·.size) = some 2 := by kernel_rfl

/-- n records lie in block b from offset o on. -/
def RecsAt (w : World) (b o n : Nat) (S : Nat → ByteArray) (N : Nat → Int) : Prop :=
  ∀ j, j < n → w.cell? ⟨b, o + j * 2, none⟩ = some (.string (S j)) ∧ w.cell? ⟨b, o + j * 2 + 1, none⟩ = some (.int .i64 (N j))

/-- The slice value v reads, in w, as n records. -/
def Rd (w : World) (v : Value) (n : Nat) (S : Nat → ByteArray) (N : Nat → Int) : Prop :=
  ∃ (a : Option Addr) (c : Nat), v = .slice a n c ∧ n ≤ c ∧ c ≤ 9223372036854775807 ∧ (a = none → n = 0 ∧ c = 0) ∧
    (0 < n → ∃ b o, a = some ⟨b, o, none⟩ ∧ RecsAt w b o n S N)

theorem RecsAt.range {w : World} {b o n : Nat} {S : Nat → ByteArray} {N : Nat → Int} (h : RecsAt w b o n S N) {k : Nat} (hk : k < n) : w.rangeAt b (o + k * 2) [.string (S k), .int .i64 (N k)] := by
  intro j v hv
  match j, hv with
  | 0, hv => simp at hv; subst hv; exact (h k hk).1
  | 1, hv => simp at hv; subst hv; exact (h k hk).2

theorem RecsAt.kept {w w' : World} {b o n : Nat} {S : Nat → ByteArray} {N : Nat → Int} (h : RecsAt w b o n S N) (hb : w'.heap[b]? = w.heap[b]?) : RecsAt w' b o n S N := fun j hj =>
  ⟨(World.cell?_of_block (w := w) (w' := w') (a := ⟨b, o + j * 2, none⟩) hb).trans (h j hj).1, (World.cell?_of_block (w := w) (w' := w') (a := ⟨b, o + j * 2 + 1, none⟩) hb).trans (h j hj).2⟩

/-- It returned a bool; if true, no name is longer than 1<<20. -/
def BytesQ (n : Nat) (S : Nat → ByteArray) (e : Ending) : Prop := ∃ r : Bool, e = .returned (.bool r) ∧ (r = true → ∀ j, j < n → (S j).size ≤ 1048576)

theorem hidIt {p : Prop} (h : p) : Hid p := h

end Go.Proofs.Qxb6617509a
