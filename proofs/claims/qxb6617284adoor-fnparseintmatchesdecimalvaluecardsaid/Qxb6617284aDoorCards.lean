/-
  DERIVED. GIVEN WITH THE SEED: THE CARDS: each row of Qxb6617284aDoorRows.lean that lists a variable, with what it lists TIED to the program's text (the seventh form; the later family's looks); each row that meets fmt, with fmt's text TOLD by the authors' own Lean function (tested against real Go, not proved from fmt's source: count such statements apart). THE CARD IS WHAT COUNTS. Prove the row's statement (the work); the ties are given (Qxb6617284aDoorTie.lean); close each card by the builder's one call (the guide's Derived/Test/ToyasCard.lean, 'card_holds'). Laid BY PROGRAM, IN A SANDBOX (cutbox-door.mjs). By AI agents, Wed Nov 11 2026. No macro, syntax, notation, axiom, sorry.
-/
import Derived.Test.Qxb6617284aDoorRows
import GoSem.ClaimSeven
namespace Go.Proofs.Qxb6617284aDoor
namespace Rows

/-- THE TIED CARD OF 'zzlaws_internal_history_b1.FnParseIntMatchesDecimalValue'. -/
def fnParseIntMatchesDecimalValueCard : Claim7 := { stood := { row := fnParseIntMatchesDecimalValueRow, standIns := [], harness := (true, "ead8573aa7c34612264e1358b02c9c450092b2c8be7b24eb07132650259f4fd2"), looks := true }, kinds := [], alts := [], laidByText := true, laidKinds := [.data, .data, .data, .sentinel, .sentinel], laidTests := true, laidLooks := .later }
def FnParseIntMatchesDecimalValueCardSaid : Prop := Claim7.holds Tryd.pinned (.plain (OpenSpec.ofChange fnParseIntMatchesDecimalValueSpec)) fnParseIntMatchesDecimalValueCard

/-- THE TIED CARD OF 'zzlaws_internal_history_b1.FnParseIntSignsAgree'. -/
def fnParseIntSignsAgreeCard : Claim7 := { stood := { row := fnParseIntSignsAgreeRow, standIns := [], harness := (true, "ead8573aa7c34612264e1358b02c9c450092b2c8be7b24eb07132650259f4fd2"), looks := true }, kinds := [], alts := [], laidByText := true, laidKinds := [.data, .data, .data, .sentinel, .sentinel], laidTests := true, laidLooks := .later }
def FnParseIntSignsAgreeCardSaid : Prop := Claim7.holds Tryd.pinned (.plain (OpenSpec.ofChange fnParseIntSignsAgreeSpec)) fnParseIntSignsAgreeCard
end Rows
end Go.Proofs.Qxb6617284aDoor
