/-
  A block of a function's text, found by its number: so that each loop of a great function is walked in a declaration of its own.
-/
import Derived.Test.Qxb6617284aInv2
namespace Go.Proofs.Qxb6617284a

def findBlk (n : Nat) : Code → Option Code
  | .block m c => if m = n then some (.block m c) else findBlk n c
  | .seq a b => match findBlk n a with
    | some c => some c
    | none => findBlk n b
  | .loop c => findBlk n c
  | .scope c => findBlk n c
  | .cond _ a b => match findBlk n a with
    | some c => some c
    | none => findBlk n b
  | _ => none

end Go.Proofs.Qxb6617284a
