/- The law's text in pieces. -/
import Derived.Test.Qxb6614451aW15
namespace Go.Proofs.Qxb6614451a
open Go.RowKit

/-- Whether region n lies in the code. -/
def hasR (n : Nat) : Code → Bool
  | .region k _ _ => k == n
  | .seq a b => hasR n a || hasR n b
  | .block _ c => hasR n c
  | .loop c => hasR n c
  | .scope c => hasR n c
  | .cond _ a b => hasR n a || hasR n b
  | _ => false
/-- The sequence from the statement on that holds region n. -/
def tailFrom (n : Nat) : Code → Code
  | .seq a b => bif hasR n a then .seq a b else tailFrom n b
  | c => c
/-- That statement. -/
def pieceAt (n : Nat) : Code → Code
  | .seq a b => bif hasR n a then a else pieceAt n b
  | c => c
noncomputable def body5 : Code := Try.f5.body.getD .skip
end Go.Proofs.Qxb6614451a
