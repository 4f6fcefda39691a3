import Derived.Test.YbulkbpdqGreatArr
import Derived.Deep.CutBlock
namespace Go.Proofs.YbulkbpdqGreat
open Go.ChangeShapes Go.WideShapes Go.ChangeAt Go.RowKit
set_option linter.unusedVariables false

/-- Region n itself. -/
def pickRegion (n : Nat) : Code → Option Code
  | .region i a b => if i == n then some (.region i a b) else none
  | .seq a b => match pickRegion n a with
    | some c => some c
    | none => pickRegion n b
  | .scope c => pickRegion n c
  | .block _ c => pickRegion n c
  | .loop c => pickRegion n c
  | .cond _ a b => match pickRegion n a with
    | some c => some c
    | none => pickRegion n b
  | _ => none
/-- Block n itself. -/
def pickBlock (n : Nat) : Code → Option Code
  | .block i c => if i == n then some (.block i c) else pickBlock n c
  | .seq a b => match pickBlock n a with
    | some c => some c
    | none => pickBlock n b
  | .scope c => pickBlock n c
  | .loop c => pickBlock n c
  | .cond _ a b => match pickBlock n a with
    | some c => some c
    | none => pickBlock n b
  | _ => none
def isTmp (n : Nat) : Operand → Bool
  | .tmp i => i == n
  | _ => false
/-- The 'if' on slot n itself. -/
def pickCond (n : Nat) : Code → Option Code
  | .cond o a b => if isTmp n o then some (.cond o a b) else match pickCond n a with
    | some c => some c
    | none => pickCond n b
  | .seq a b => match pickCond n a with
    | some c => some c
    | none => pickCond n b
  | .scope c => pickCond n c
  | .loop c => pickCond n c
  | .block _ c => pickCond n c
  | _ => none
end Go.Proofs.YbulkbpdqGreat
