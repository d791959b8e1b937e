/-
  The words that this seat's walks share: bytes that lie in a row.
-/
import Derived.Test.Qxb6617284aDoorRows
import Derived.Test.Qxb6617284aDoorPlain
import Derived.WalkKit
import Derived.WalkSpells
import Derived.WalkLawsBesides
import Derived.Deep.QuietTactic
import Derived.BigQuiet
import Derived.Deep.LoopGhost
import Derived.Deep.OwnRows
import Derived.Deep.MidRow
namespace Go.Proofs.Qxb6617284aDoor
set_option linter.unusedVariables false
open Go.RowKit Go.Deep

theorem Tryd.cells22 : Tryd.prog.cellsOf 22 = 1 := by kernel_rfl
theorem Tryd.cells5 : Tryd.prog.cellsOf 5 = 1 := by kernel_rfl
theorem Tryd.info5 : (Tryd.prog.info? 5).map (fun i => (i.zero, i.size, i.bytes)) = some (some (.int .u8 0), 1, 1) := by kernel_rfl

/-- The byte at place j of l, as the model holds it. -/
def byteAt (l : List UInt8) (j : Nat) : Int := ((l[j]?.getD 0).toNat : Int)
/-- The bytes l lie in block b from offset o on. -/
def Bytes (w : World) (b o : Nat) (l : List UInt8) : Prop := ∀ j, j < l.length → w.cell? ⟨b, o + j, none⟩ = some (.int .u8 (byteAt l j))

theorem byteAt_lo (l : List UInt8) (j : Nat) : 0 ≤ byteAt l j := by unfold byteAt; omega
theorem byteAt_hi (l : List UInt8) (j : Nat) : byteAt l j ≤ 255 := by
  unfold byteAt
  have := (l[j]?.getD 0).toNat_lt
  omega
theorem byteAt_nat (l : List UInt8) (j : Nat) : (byteAt l j).toNat = (l[j]?.getD 0).toNat := by simp [byteAt]

theorem Bytes.kept {w w' : World} {b o : Nat} {l : List UInt8} (h : Bytes w b o l) (hb : w'.heap[b]? = w.heap[b]?) : Bytes w' b o l := fun j hj =>
  (World.cell?_of_block (w := w) (w' := w') (a := ⟨b, o + j, none⟩) hb).trans (h j hj)
theorem Bytes.lt {w : World} {b o : Nat} {l : List UInt8} (h : Bytes w b o l) (h0 : l ≠ []) : b < w.heap.size := World.block_lt_of_cell? _ _ (h 0 (List.length_pos_iff.2 h0))
theorem Bytes.on {w w' : World} {b o : Nat} {l : List UInt8} (h : Bytes w b o l) (hb : Below w.heap.size w w') (h0 : l ≠ []) : Bytes w' b o l := h.kept (hb.block _ (h.lt h0))

theorem below_drew (w : World) (n : Nat) : Below w.heap.size w (w.drewN n) := ⟨rfl, rfl, rfl, Nat.le_refl _, fun _ _ => rfl⟩
theorem hidIt {p : Prop} (h : p) : Hid p := h
theorem ret_bool {a b : Bool} (h : a = b) : Ending.returned (.bool a) = .returned (.bool b) := by rw [h]

/-- A bool, and what it says if true. -/
def TrueQ (P : Prop) (e : Ending) : Prop := ∃ r : Bool, e = .returned (.bool r) ∧ (r = true → P)

theorem dig_step {l : List UInt8} {f k : Nat} (hf : f ≤ k) (hk : k < l.length) (h : ∀ j, f ≤ j → j < k → 48 ≤ byteAt l j ∧ byteAt l j ≤ 57) (h1 : 48 ≤ byteAt l k) (h2 : byteAt l k ≤ 57) : ∀ j, f ≤ j → j < k + 1 → 48 ≤ byteAt l j ∧ byteAt l j ≤ 57 := by
  intro j hj hjk
  by_cases e : j = k
  · subst e; exact ⟨h1, h2⟩
  · exact h j hj (by omega)
theorem dig_of {l : List UInt8} {f : Nat} (h : ∀ j, f ≤ j → j < l.length → 48 ≤ byteAt l j ∧ byteAt l j ≤ 57) : Dig (l.drop f) := by
  intro c hc
  obtain ⟨i, hi, rfl⟩ := List.getElem_of_mem hc
  simp only [List.length_drop] at hi
  have := h (f + i) (by omega) (by omega)
  simp only [byteAt, List.getElem?_eq_getElem (show f + i < l.length by omega), Option.getD_some] at this
  rw [List.getElem_drop]
  omega

theorem take_succ_eq {xs ys : List UInt8} {k : Nat} (h : xs.take k = ys.take k) (hx : k < xs.length) (hy : k < ys.length) (e : byteAt xs k = byteAt ys k) : xs.take (k + 1) = ys.take (k + 1) := by
  rw [List.take_succ_eq_append_getElem hx, List.take_succ_eq_append_getElem hy, h]
  simp only [byteAt, List.getElem?_eq_getElem hx, List.getElem?_eq_getElem hy, Option.getD_some] at e
  have e2 : xs[k] = ys[k] := UInt8.toNat_inj.1 (by omega)
  rw [e2]

end Go.Proofs.Qxb6617284aDoor
