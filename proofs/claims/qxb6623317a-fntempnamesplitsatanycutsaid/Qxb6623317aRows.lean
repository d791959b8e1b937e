/-
  No cell of these rows narrows 'for every input' (looked for: loops, veiled, ifaces, maps, wideKeys, modest, calm, conditions, laid).
  DERIVED. THE GIVEN ROWS OF THIS SEAT. 1 by the template 'for every input the law returns true; each argument reads behind the call as it read before'; 0 by the template 'total and deterministic' (their statements: Qxb6623317aTotals.lean).
  GIVEN WITH THE SEED: the statements are not yours to turn. If you find one false, say at which input.
  Laid BY PROGRAM, IN A SANDBOX (cutbox-rows.mjs): the forced cells as the released guide's own fill.sh prints them over the translation 6976364763b73b5a… (all of the seat's roots in one cut). By AI agents, Wed Nov 11 2026. No macro, syntax, notation, axiom, sorry.
-/
import Derived.Test.Qxb6623317aChecked
import GoSem.Claim
import GoSem.ClaimJoined
import GoSem.ClaimMapViews
import Derived.JoinedTies
import Derived.KernelRfl
namespace Go.Proofs.Qxb6623317a
/- THE CELL 'sum', in the pinned program and in every row, IS THE sha256 OF THE DUMP (.gsa) THAT Qxb6623317aProg.lean LOADS. Nothing in Lean hashes anything: it is a label: what it is worth is what the hold of that sum in a sandbox is worth. -/
noncomputable def Try.pinned : Pinned := { name := "qxb6623317a", sum := "6976364763b73b5ad7c115c06d4f2d091430df32e03a42db6bd54c6d07d468b4", checked := Try.checked }
namespace Rows
def none {H : Type} : Left H := { results := [], args := [] }

/-- 'zzlaws_durable_b1.FnTempNameSplitsAtAnyCut': WHATEVER THE INPUT: true; the input reads as it did. -/
def fnTempNameSplitsAtAnyCutSpec : ChangeSpec := { name := "fnTempNameSplitsAtAnyCut", fn := fun _ => fun
  | [d1, d2] => { results := [.lit (.bool true)], args := [d1, d2] }
  | _ => none }
def fnTempNameSplitsAtAnyCutRow : OpenClaim := { program := "qxb6623317a", sum := "6976364763b73b5ad7c115c06d4f2d091430df32e03a42db6bd54c6d07d468b4", func := "example.com/cairnlog/cairnlog/zzlaws_durable_b1.FnTempNameSplitsAtAnyCut", spec := "fnTempNameSplitsAtAnyCut", apart := false }
def FnTempNameSplitsAtAnyCutSaid : Prop := fnTempNameSplitsAtAnyCutRow.holds Try.pinned (OpenSpec.ofChange fnTempNameSplitsAtAnyCutSpec)

/-- ITS FALSE NEIGHBOUR: 'it returns false'. Refute it at one input. -/
def fnTempNameSplitsAtAnyCutWrong : ChangeSpec := { name := "fnTempNameSplitsAtAnyCut", fn := fun _ => fun
  | [d1, d2] => { results := [.lit (.bool false)], args := [d1, d2] }
  | _ => none }
def FnTempNameSplitsAtAnyCutWrongFalsely : Prop := fnTempNameSplitsAtAnyCutRow.holds Try.pinned (OpenSpec.ofChange fnTempNameSplitsAtAnyCutWrong)

end Rows
end Go.Proofs.Qxb6623317a
