/-
  No cell of these rows narrows 'for every input' (looked for: loops, veiled, ifaces, maps, wideKeys, modest, calm, conditions, laid).
  DERIVED. THE GIVEN ROWS OF THIS SEAT. 2 by the template 'for every input the law returns true; each argument reads behind the call as it read before'; 0 by the template 'total and deterministic' (their statements: Qxb6617284aTotals.lean).
  GIVEN WITH THE SEED: the statements are not yours to turn. If you find one false, say at which input.
  Laid BY PROGRAM, IN A SANDBOX (cutbox-rows.mjs): the forced cells as the released guide's own fill.sh prints them over the translation 542e836e9625bc80… (all of the seat's roots in one cut). By AI agents, Wed Nov 11 2026. No macro, syntax, notation, axiom, sorry.
-/
import Derived.Test.Qxb6617284aChecked
import GoSem.Claim
import GoSem.ClaimJoined
import GoSem.ClaimMapViews
import Derived.JoinedTies
import Derived.KernelRfl
namespace Go.Proofs.Qxb6617284a
/- THE CELL 'sum', in the pinned program and in every row, IS THE sha256 OF THE DUMP (.gsa) THAT Qxb6617284aProg.lean LOADS. Nothing in Lean hashes anything: it is a label: what it is worth is what the hold of that sum in a sandbox is worth. -/
noncomputable def Try.pinned : Pinned := { name := "qxb6617284a", sum := "542e836e9625bc80c64adaf92f86de897b7338c3806ff169eea34a6d64260cca", checked := Try.checked }
namespace Rows
def none {H : Type} : Left H := { results := [], args := [] }

/-- 'zzlaws_internal_history_b1.FnKeepTwiceChangesNothingMoreAndShares': WHATEVER THE INPUT: true; the input reads as it did. -/
def fnKeepTwiceChangesNothingMoreAndSharesSpec : ChangeSpec := { name := "fnKeepTwiceChangesNothingMoreAndShares", fn := fun _ => fun
  | [d1, d2, d3, d4, d5] => { results := [.lit (.bool true)], args := [d1, d2, d3, d4, d5] }
  | _ => none }
def fnKeepTwiceChangesNothingMoreAndSharesRow : OpenClaim := { program := "qxb6617284a", sum := "542e836e9625bc80c64adaf92f86de897b7338c3806ff169eea34a6d64260cca", func := "example.com/concordat/concordat/zzlaws_internal_history_b1.FnKeepTwiceChangesNothingMoreAndShares", spec := "fnKeepTwiceChangesNothingMoreAndShares", apart := false }
def FnKeepTwiceChangesNothingMoreAndSharesSaid : Prop := fnKeepTwiceChangesNothingMoreAndSharesRow.holds Try.pinned (OpenSpec.ofChange fnKeepTwiceChangesNothingMoreAndSharesSpec)

/-- ITS FALSE NEIGHBOUR: 'it returns false'. Refute it at one input. -/
def fnKeepTwiceChangesNothingMoreAndSharesWrong : ChangeSpec := { name := "fnKeepTwiceChangesNothingMoreAndShares", fn := fun _ => fun
  | [d1, d2, d3, d4, d5] => { results := [.lit (.bool false)], args := [d1, d2, d3, d4, d5] }
  | _ => none }
def FnKeepTwiceChangesNothingMoreAndSharesWrongFalsely : Prop := fnKeepTwiceChangesNothingMoreAndSharesRow.holds Try.pinned (OpenSpec.ofChange fnKeepTwiceChangesNothingMoreAndSharesWrong)

/-- 'zzlaws_internal_history_b1.FnKeepScriptKeepsEveryRead': WHATEVER THE INPUT: true; the input reads as it did. -/
def fnKeepScriptKeepsEveryReadSpec : ChangeSpec := { name := "fnKeepScriptKeepsEveryRead", fn := fun _ => fun
  | [d1, d2] => { results := [.lit (.bool true)], args := [d1, d2] }
  | _ => none }
def fnKeepScriptKeepsEveryReadRow : OpenClaim := { program := "qxb6617284a", sum := "542e836e9625bc80c64adaf92f86de897b7338c3806ff169eea34a6d64260cca", func := "example.com/concordat/concordat/zzlaws_internal_history_b1.FnKeepScriptKeepsEveryRead", spec := "fnKeepScriptKeepsEveryRead", apart := false }
def FnKeepScriptKeepsEveryReadSaid : Prop := fnKeepScriptKeepsEveryReadRow.holds Try.pinned (OpenSpec.ofChange fnKeepScriptKeepsEveryReadSpec)

/-- ITS FALSE NEIGHBOUR: 'it returns false'. Refute it at one input. -/
def fnKeepScriptKeepsEveryReadWrong : ChangeSpec := { name := "fnKeepScriptKeepsEveryRead", fn := fun _ => fun
  | [d1, d2] => { results := [.lit (.bool false)], args := [d1, d2] }
  | _ => none }
def FnKeepScriptKeepsEveryReadWrongFalsely : Prop := fnKeepScriptKeepsEveryReadRow.holds Try.pinned (OpenSpec.ofChange fnKeepScriptKeepsEveryReadWrong)

end Rows
end Go.Proofs.Qxb6617284a
