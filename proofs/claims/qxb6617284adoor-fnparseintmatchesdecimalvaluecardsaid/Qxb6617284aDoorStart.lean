/-
  What 'laid' gives (strconv.ErrRange holds an error); one start that fits; the argument opened.
-/
import Derived.Test.Qxb6617284aDoorParse
import Derived.ProofKit
import Derived.OpenShut
import Derived.ChangeOld
import Derived.JoinedOf
import Derived.JoinedAt
import Derived.LaidLaws
import Derived.Stop.LaidErr
import Derived.Deep.DeepLaidRun
namespace Go.Proofs.Qxb6617284aDoor
set_option linter.unusedVariables false
open Go.ChangeShapes Go.WideShapes Go.ChangeAt Go.RowKit Go.Deep

theorem Tryd.own : ownKnob Tryd.prog.godebug = none := by kernel_rfl
theorem Tryd.laidOut : laidOutB Tryd.prog = true := by kernel_rfl
theorem Tryd.gER : Tryd.prog.globalNamed "strconv.ErrRange" = some 1 := by kernel_rfl
theorem Tryd.gERType : (Tryd.prog.globals[1]?).map (·.type) = some 35 := by kernel_rfl
theorem Tryd.cells56 : Tryd.prog.cellsOf 56 = 1 := by kernel_rfl
theorem Tryd.cells9 : Tryd.prog.cellsOf 9 = 1 := by kernel_rfl
theorem Tryd.star : "*" ++ "errors.errorString" = "*errors.errorString" := by decide
/-- The one row of that name. -/
theorem Tryd.row54 (u : TypeId) (h : Tryd.prog.typeName? 3 u = some "*errors.errorString") : u = 54 :=
  typeName_ptr_named (nm := "errors.errorString") (by rw [Tryd.star]; kernel_rfl) (by kernel_rfl) (by decide) u (by rw [Tryd.star]; exact h)

/-- What both rows list. -/
abbrev theLaid : List (String × DataW Unit) := [("math/bits.deBruijn32tab", Rows.laid_math_bits_deBruijn32tab), ("math/bits.deBruijn64tab", Rows.laid_math_bits_deBruijn64tab), ("internal/strconv.uint64pow10", Rows.laid_internal_strconv_uint64pow10), ("strconv.ErrRange", Rows.laid_strconv_ErrRange), ("strconv.ErrSyntax", Rows.laid_strconv_ErrSyntax)]

theorem errOk_of_laid {W : World} (hL : laidMet Tryd.prog theLaid W) : ErrOk W := by
  obtain ⟨a1, s1, hv1, -, -, -⟩ := laid_sentinel hL.tail.tail.tail Tryd.gER Tryd.gERType Tryd.underlying35 Tryd.row54 Tryd.underlying54 Tryd.underlying56 rfl rfl Tryd.underlying9 Tryd.cells56 Tryd.cells9
  exact ⟨_, _, hv1⟩

/-! ### one start that fits -/
abbrev synS : ByteArray := { data := #[105, 110, 118, 97, 108, 105, 100, 32, 115, 121, 110, 116, 97, 120] }
abbrev rngS : ByteArray := { data := #[118, 97, 108, 117, 101, 32, 111, 117, 116, 32, 111, 102, 32, 114, 97, 110, 103, 101] }
noncomputable def low : Nat := (World.holding Tryd.prog default ⟨#[], #[], []⟩).heap.size
def turn (c : Array Value) : Obj → Obj
  | .cells _ t frozen => .cells c t frozen
  | o => o
/-- The settled world with two blocks more; the five variables as their initialisers lay them. -/
noncomputable def laidWorld (os : Os) : World :=
  let w0 := World.holding Tryd.prog os ⟨#[.cells #[.string synS] 56, .cells #[.string rngS] 56], #[], []⟩
  { w0 with heap := ((((w0.heap.modify 0 (turn #[.iface 54 (.pointer (some ⟨low, 0, none⟩))])).modify 1 (turn #[.iface 54 (.pointer (some ⟨low + 1, 0, none⟩))])).modify 2 (turn #[.int .u64 1, .int .u64 10, .int .u64 100, .int .u64 1000, .int .u64 10000, .int .u64 100000, .int .u64 1000000, .int .u64 10000000, .int .u64 100000000, .int .u64 1000000000, .int .u64 10000000000, .int .u64 100000000000, .int .u64 1000000000000, .int .u64 10000000000000, .int .u64 100000000000000, .int .u64 1000000000000000, .int .u64 10000000000000000, .int .u64 100000000000000000, .int .u64 1000000000000000000, .int .u64 10000000000000000000])).modify 3 (turn #[.int .u8 0, .int .u8 1, .int .u8 28, .int .u8 2, .int .u8 29, .int .u8 14, .int .u8 24, .int .u8 3, .int .u8 30, .int .u8 22, .int .u8 20, .int .u8 15, .int .u8 25, .int .u8 17, .int .u8 4, .int .u8 8, .int .u8 31, .int .u8 27, .int .u8 13, .int .u8 23, .int .u8 21, .int .u8 19, .int .u8 16, .int .u8 7, .int .u8 26, .int .u8 12, .int .u8 18, .int .u8 6, .int .u8 11, .int .u8 5, .int .u8 10, .int .u8 9])).modify 4 (turn #[.int .u8 0, .int .u8 1, .int .u8 56, .int .u8 2, .int .u8 57, .int .u8 49, .int .u8 28, .int .u8 3, .int .u8 61, .int .u8 58, .int .u8 42, .int .u8 50, .int .u8 38, .int .u8 29, .int .u8 17, .int .u8 4, .int .u8 62, .int .u8 47, .int .u8 59, .int .u8 36, .int .u8 45, .int .u8 43, .int .u8 51, .int .u8 22, .int .u8 53, .int .u8 39, .int .u8 33, .int .u8 30, .int .u8 24, .int .u8 18, .int .u8 12, .int .u8 5, .int .u8 63, .int .u8 55, .int .u8 48, .int .u8 27, .int .u8 60, .int .u8 41, .int .u8 37, .int .u8 16, .int .u8 46, .int .u8 35, .int .u8 44, .int .u8 21, .int .u8 52, .int .u8 32, .int .u8 23, .int .u8 11, .int .u8 54, .int .u8 26, .int .u8 40, .int .u8 15, .int .u8 34, .int .u8 20, .int .u8 31, .int .u8 10, .int .u8 25, .int .u8 14, .int .u8 19, .int .u8 9, .int .u8 13, .int .u8 8, .int .u8 7, .int .u8 6]) }
theorem laidWorld_met (os : Os) (args : Array Value) : laidMet Tryd.prog theLaid ((laidWorld os).forCall (fun _ _ => 0) ⟨#[], args, []⟩).memory :=
  laidMet_of_run3 8 (by kernel_rfl) (by kernel_rfl) (by kernel_rfl)

/-! ### the argument -/
theorem arg22 {H : Type} {enc : TypeId × Value → H} {W : World} {a : Option Addr} {len cap : Nat} {d : DataW H} {p : List MemPlace} (h : DataW.Trod enc Tryd.prog W 0 (fun _ => true) true 22 (.slice a len cap) d p) :
    len ≤ 9223372036854775807 ∧ (0 < len → ∃ b o l, a = some ⟨b, o, none⟩ ∧ len = List.length l ∧ Bytes W b o l) := by
  obtain ⟨fuel, hf⟩ := h
  rcases open_ints Tryd.underlying22 Tryd.underlying5 Tryd.cells5 hf with ⟨hcs, _⟩ | ⟨x, l, c, zs, hcs, _, hl, hm, hz, _, hcell, hwz⟩
  · simp [Value.cells] at hcs
    obtain ⟨rfl, rfl, rfl⟩ := hcs
    exact ⟨by omega, fun h => by omega⟩
  · simp [Value.cells] at hcs
    obtain ⟨rfl, rfl, rfl⟩ := hcs
    have hz' : zs.length = cap := by simpa using hz
    refine ⟨by simp only [maxLen] at hm; omega, fun h0 => ?_⟩
    obtain ⟨b, o, spot⟩ := x
    have hspot : spot = none := by simpa [Addr.add] using World.cell?_spot (hcell 0 (by omega))
    subst hspot
    refine ⟨b, o, (zs.take len).map (fun z => UInt8.ofNat z.toNat), rfl, by simp; omega, fun j hj => ?_⟩
    have hj' : j < len := by simp at hj; omega
    have hjz : j < zs.length := by omega
    have := hcell j hjz
    rw [Addr.add_mid] at this
    rw [this]
    have hw := hwz zs[j] (List.getElem_mem hjz)
    have e1 : IntKind.u8.min = 0 := rfl
    have e2 : IntKind.u8.max = 255 := rfl
    simp [Lit.wf, e1, e2] at hw
    have hb : byteAt ((zs.take len).map (fun z => UInt8.ofNat z.toNat)) j = zs[j] := by
      simp only [byteAt, List.getElem?_map, List.getElem?_take, if_pos hj', List.getElem?_eq_getElem hjz, Option.map_some, Option.getD_some, UInt8.toNat_ofNat']
      omega
    rw [hb, List.getD_eq_getElem?_getD, List.getElem?_eq_getElem hjz]
    rfl

end Go.Proofs.Qxb6617284aDoor
