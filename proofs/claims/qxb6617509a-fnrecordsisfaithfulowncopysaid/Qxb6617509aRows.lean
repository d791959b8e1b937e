/-
  No cell of these rows narrows 'for every input' (looked for: loops, veiled, ifaces, maps, wideKeys, modest, calm, conditions, laid).
  DERIVED. THE GIVEN ROWS OF THIS SEAT. 1 by the template 'for every input the law returns true; each argument reads behind the call as it read before'; 0 by the template 'total and deterministic' (their statements: Qxb6617509aTotals.lean).
  GIVEN WITH THE SEED: the statements are not yours to turn. If you find one false, say at which input.
  Laid BY PROGRAM, IN A SANDBOX (cutbox-rows.mjs): the forced cells as the released guide's own fill.sh prints them over the translation f6e47be188076cd3… (all of the seat's roots in one cut). By AI agents, Wed Nov 11 2026. No macro, syntax, notation, axiom, sorry.
-/
import Derived.Test.Qxb6617509aChecked
import GoSem.Claim
import GoSem.ClaimJoined
import GoSem.ClaimMapViews
import Derived.JoinedTies
import Derived.KernelRfl
namespace Go.Proofs.Qxb6617509a
/- THE CELL 'sum', in the pinned program and in every row, IS THE sha256 OF THE DUMP (.gsa) THAT Qxb6617509aProg.lean LOADS. Nothing in Lean hashes anything: it is a label: what it is worth is what the hold of that sum in a sandbox is worth. -/
noncomputable def Try.pinned : Pinned := { name := "qxb6617509a", sum := "f6e47be188076cd3b086ab72ce1f04dd2fbfb7ca3e7a277cb36b752876cbe2d8", checked := Try.checked }
namespace Rows
def none {H : Type} : Left H := { results := [], args := [] }

/-- 'zzlaws_root_b1.FnRecordsIsFaithfulOwnCopy': WHATEVER THE INPUT: true; the input reads as it did. -/
def fnRecordsIsFaithfulOwnCopySpec : ChangeSpec := { name := "fnRecordsIsFaithfulOwnCopy", fn := fun _ => fun
  | [d] => { results := [.lit (.bool true)], args := [d] }
  | _ => none }
def fnRecordsIsFaithfulOwnCopyRow : OpenClaim := { program := "qxb6617509a", sum := "f6e47be188076cd3b086ab72ce1f04dd2fbfb7ca3e7a277cb36b752876cbe2d8", func := "example.com/wheelhouse/wheelhouse/zzlaws_root_b1.FnRecordsIsFaithfulOwnCopy", spec := "fnRecordsIsFaithfulOwnCopy", apart := false }
def FnRecordsIsFaithfulOwnCopySaid : Prop := fnRecordsIsFaithfulOwnCopyRow.holds Try.pinned (OpenSpec.ofChange fnRecordsIsFaithfulOwnCopySpec)

/-- ITS FALSE NEIGHBOUR: 'it returns false'. Refute it at one input. -/
def fnRecordsIsFaithfulOwnCopyWrong : ChangeSpec := { name := "fnRecordsIsFaithfulOwnCopy", fn := fun _ => fun
  | [d] => { results := [.lit (.bool false)], args := [d] }
  | _ => none }
def FnRecordsIsFaithfulOwnCopyWrongFalsely : Prop := fnRecordsIsFaithfulOwnCopyRow.holds Try.pinned (OpenSpec.ofChange fnRecordsIsFaithfulOwnCopyWrong)

end Rows
end Go.Proofs.Qxb6617509a
