/-
  No cell of these rows narrows 'for every input' (looked for: loops, veiled, ifaces, maps, wideKeys, modest, calm, conditions, laid).
  DERIVED. THE GIVEN ROWS OF THIS SEAT. 4 by the template 'for every input the law returns true; each argument reads behind the call as it read before'; 0 by the template 'total and deterministic' (their statements: Qxb6617334aTotals.lean).
  GIVEN WITH THE SEED: the statements are not yours to turn. If you find one false, say at which input.
  Laid BY PROGRAM, IN A SANDBOX (cutbox-rows.mjs): the forced cells as the released guide's own fill.sh prints them over the translation 7096de1476cd9eaa… (all of the seat's roots in one cut). By AI agents, Wed Nov 11 2026. No macro, syntax, notation, axiom, sorry.
-/
import Derived.Test.Qxb6617334aChecked
import GoSem.Claim
import GoSem.ClaimJoined
import GoSem.ClaimMapViews
import Derived.JoinedTies
import Derived.KernelRfl
namespace Go.Proofs.Qxb6617334a
/- THE CELL 'sum', in the pinned program and in every row, IS THE sha256 OF THE DUMP (.gsa) THAT Qxb6617334aProg.lean LOADS. Nothing in Lean hashes anything: it is a label: what it is worth is what the hold of that sum in a sandbox is worth. -/
noncomputable def Try.pinned : Pinned := { name := "qxb6617334a", sum := "7096de1476cd9eaa0ed29445fd975fe49aa4a72043e5cf8b20af61b6b4fb64c4", checked := Try.checked }
namespace Rows
def none {H : Type} : Left H := { results := [], args := [] }

/-- 'zzlaws_internal_wire_b1.FnVersionLessIsTheBorrowOf256BitSubtraction': WHATEVER THE INPUT: true; the input reads as it did. -/
def fnVersionLessIsTheBorrowOf256BitSubtractionSpec : ChangeSpec := { name := "fnVersionLessIsTheBorrowOf256BitSubtraction", fn := fun _ => fun
  | [d1, d2, d3, d4, d5, d6, d7, d8] => { results := [.lit (.bool true)], args := [d1, d2, d3, d4, d5, d6, d7, d8] }
  | _ => none }
def fnVersionLessIsTheBorrowOf256BitSubtractionRow : OpenClaim := { program := "qxb6617334a", sum := "7096de1476cd9eaa0ed29445fd975fe49aa4a72043e5cf8b20af61b6b4fb64c4", func := "example.com/slackline/slackline/zzlaws_internal_wire_b1.FnVersionLessIsTheBorrowOf256BitSubtraction", spec := "fnVersionLessIsTheBorrowOf256BitSubtraction", apart := false }
def FnVersionLessIsTheBorrowOf256BitSubtractionSaid : Prop := fnVersionLessIsTheBorrowOf256BitSubtractionRow.holds Try.pinned (OpenSpec.ofChange fnVersionLessIsTheBorrowOf256BitSubtractionSpec)

/-- ITS FALSE NEIGHBOUR: 'it returns false'. Refute it at one input. -/
def fnVersionLessIsTheBorrowOf256BitSubtractionWrong : ChangeSpec := { name := "fnVersionLessIsTheBorrowOf256BitSubtraction", fn := fun _ => fun
  | [d1, d2, d3, d4, d5, d6, d7, d8] => { results := [.lit (.bool false)], args := [d1, d2, d3, d4, d5, d6, d7, d8] }
  | _ => none }
def FnVersionLessIsTheBorrowOf256BitSubtractionWrongFalsely : Prop := fnVersionLessIsTheBorrowOf256BitSubtractionRow.holds Try.pinned (OpenSpec.ofChange fnVersionLessIsTheBorrowOf256BitSubtractionWrong)

/-- 'zzlaws_internal_wire_b1.FnVersionLessPutsAResultBetweenItsReadAndOtherWrites': WHATEVER THE INPUT: true; the input reads as it did. -/
def fnVersionLessPutsAResultBetweenItsReadAndOtherWritesSpec : ChangeSpec := { name := "fnVersionLessPutsAResultBetweenItsReadAndOtherWrites", fn := fun _ => fun
  | [d1, d2, d3, d4, d5, d6, d7, d8] => { results := [.lit (.bool true)], args := [d1, d2, d3, d4, d5, d6, d7, d8] }
  | _ => none }
def fnVersionLessPutsAResultBetweenItsReadAndOtherWritesRow : OpenClaim := { program := "qxb6617334a", sum := "7096de1476cd9eaa0ed29445fd975fe49aa4a72043e5cf8b20af61b6b4fb64c4", func := "example.com/slackline/slackline/zzlaws_internal_wire_b1.FnVersionLessPutsAResultBetweenItsReadAndOtherWrites", spec := "fnVersionLessPutsAResultBetweenItsReadAndOtherWrites", apart := false }
def FnVersionLessPutsAResultBetweenItsReadAndOtherWritesSaid : Prop := fnVersionLessPutsAResultBetweenItsReadAndOtherWritesRow.holds Try.pinned (OpenSpec.ofChange fnVersionLessPutsAResultBetweenItsReadAndOtherWritesSpec)

/-- ITS FALSE NEIGHBOUR: 'it returns false'. Refute it at one input. -/
def fnVersionLessPutsAResultBetweenItsReadAndOtherWritesWrong : ChangeSpec := { name := "fnVersionLessPutsAResultBetweenItsReadAndOtherWrites", fn := fun _ => fun
  | [d1, d2, d3, d4, d5, d6, d7, d8] => { results := [.lit (.bool false)], args := [d1, d2, d3, d4, d5, d6, d7, d8] }
  | _ => none }
def FnVersionLessPutsAResultBetweenItsReadAndOtherWritesWrongFalsely : Prop := fnVersionLessPutsAResultBetweenItsReadAndOtherWritesRow.holds Try.pinned (OpenSpec.ofChange fnVersionLessPutsAResultBetweenItsReadAndOtherWritesWrong)

/-- 'zzlaws_internal_wire_b1.FnStepsAfterIsTheSuffixBehindTheFirstMatch': WHATEVER THE INPUT: true; the input reads as it did. -/
def fnStepsAfterIsTheSuffixBehindTheFirstMatchSpec : ChangeSpec := { name := "fnStepsAfterIsTheSuffixBehindTheFirstMatch", fn := fun _ => fun
  | [d1, d2, d3, d4, d5] => { results := [.lit (.bool true)], args := [d1, d2, d3, d4, d5] }
  | _ => none }
def fnStepsAfterIsTheSuffixBehindTheFirstMatchRow : OpenClaim := { program := "qxb6617334a", sum := "7096de1476cd9eaa0ed29445fd975fe49aa4a72043e5cf8b20af61b6b4fb64c4", func := "example.com/slackline/slackline/zzlaws_internal_wire_b1.FnStepsAfterIsTheSuffixBehindTheFirstMatch", spec := "fnStepsAfterIsTheSuffixBehindTheFirstMatch", apart := false }
def FnStepsAfterIsTheSuffixBehindTheFirstMatchSaid : Prop := fnStepsAfterIsTheSuffixBehindTheFirstMatchRow.holds Try.pinned (OpenSpec.ofChange fnStepsAfterIsTheSuffixBehindTheFirstMatchSpec)

/-- ITS FALSE NEIGHBOUR: 'it returns false'. Refute it at one input. -/
def fnStepsAfterIsTheSuffixBehindTheFirstMatchWrong : ChangeSpec := { name := "fnStepsAfterIsTheSuffixBehindTheFirstMatch", fn := fun _ => fun
  | [d1, d2, d3, d4, d5] => { results := [.lit (.bool false)], args := [d1, d2, d3, d4, d5] }
  | _ => none }
def FnStepsAfterIsTheSuffixBehindTheFirstMatchWrongFalsely : Prop := fnStepsAfterIsTheSuffixBehindTheFirstMatchRow.holds Try.pinned (OpenSpec.ofChange fnStepsAfterIsTheSuffixBehindTheFirstMatchWrong)

/-- 'zzlaws_internal_wire_b1.FnOwnRepliesKeepsEveryReplyEmptiesNil': WHATEVER THE INPUT: true; the input reads as it did. -/
def fnOwnRepliesKeepsEveryReplyEmptiesNilSpec : ChangeSpec := { name := "fnOwnRepliesKeepsEveryReplyEmptiesNil", fn := fun _ => fun
  | [d] => { results := [.lit (.bool true)], args := [d] }
  | _ => none }
def fnOwnRepliesKeepsEveryReplyEmptiesNilRow : OpenClaim := { program := "qxb6617334a", sum := "7096de1476cd9eaa0ed29445fd975fe49aa4a72043e5cf8b20af61b6b4fb64c4", func := "example.com/slackline/slackline/zzlaws_internal_wire_b1.FnOwnRepliesKeepsEveryReplyEmptiesNil", spec := "fnOwnRepliesKeepsEveryReplyEmptiesNil", unfollowed := true, recurses := true, apart := false }
def FnOwnRepliesKeepsEveryReplyEmptiesNilSaid : Prop := fnOwnRepliesKeepsEveryReplyEmptiesNilRow.holds Try.pinned (OpenSpec.ofChange fnOwnRepliesKeepsEveryReplyEmptiesNilSpec)

/-- ITS FALSE NEIGHBOUR: 'it returns false'. Refute it at one input. -/
def fnOwnRepliesKeepsEveryReplyEmptiesNilWrong : ChangeSpec := { name := "fnOwnRepliesKeepsEveryReplyEmptiesNil", fn := fun _ => fun
  | [d] => { results := [.lit (.bool false)], args := [d] }
  | _ => none }
def FnOwnRepliesKeepsEveryReplyEmptiesNilWrongFalsely : Prop := fnOwnRepliesKeepsEveryReplyEmptiesNilRow.holds Try.pinned (OpenSpec.ofChange fnOwnRepliesKeepsEveryReplyEmptiesNilWrong)

end Rows
end Go.Proofs.Qxb6617334a
