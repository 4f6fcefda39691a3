/-
  No cell of these rows narrows 'for every input' (looked for: loops, veiled, ifaces, maps, wideKeys, modest, calm, conditions, laid).
  DERIVED. THE GIVEN ROWS OF THIS SEAT. 2 by the template 'for every input the law returns true; each argument reads behind the call as it read before'; 0 by the template 'total and deterministic' (their statements: YbulkbpdqTotals.lean).
  GIVEN WITH THE SEED: the statements are not yours to turn. If you find one false, say at which input.
  Laid BY PROGRAM, IN A SANDBOX (cutbox-rows.mjs): the forced cells as the released guide's own fill.sh prints them over the translation 07d310e1862c574b… (all of the seat's roots in one cut). By AI agents, Wed Nov 11 2026. No macro, syntax, notation, axiom, sorry.
-/
import Derived.Test.YbulkbpdqChecked
import GoSem.Claim
import GoSem.ClaimJoined
import GoSem.ClaimMapViews
import Derived.JoinedTies
import Derived.KernelRfl
namespace Go.Proofs.Ybulkbpdq
/- THE CELL 'sum', in the pinned program and in every row, IS THE sha256 OF THE DUMP (.gsa) THAT YbulkbpdqProg.lean LOADS. Nothing in Lean hashes anything: it is a label: what it is worth is what the hold of that sum in a sandbox is worth. -/
noncomputable def Yba.pinned : Pinned := { name := "ybulkbpdq", sum := "07d310e1862c574b5c65792d388f7844aef34257e34f4600845d1d1920a8cb65", checked := Yba.checked }
namespace Rows
def none {H : Type} : Left H := { results := [], args := [] }

/-- 'lock.LawS3292CStep': WHATEVER THE INPUT: true; the input reads as it did. -/
def lawS3292CStepSpec : ChangeSpec := { name := "lawS3292CStep", fn := fun _ => fun
  | [d1, d2, d3, d4] => { results := [.lit (.bool true)], args := [d1, d2, d3, d4] }
  | _ => none }
def lawS3292CStepRow : OpenClaim := { program := "ybulkbpdq", sum := "07d310e1862c574b5c65792d388f7844aef34257e34f4600845d1d1920a8cb65", func := "example.com/latchwork/latchwork/lock.LawS3292CStep", spec := "lawS3292CStep", apart := false }
def LawS3292CStepSaid : Prop := lawS3292CStepRow.holds Yba.pinned (OpenSpec.ofChange lawS3292CStepSpec)

/-- ITS FALSE NEIGHBOUR: 'it returns false'. Refute it at one input. -/
def lawS3292CStepWrong : ChangeSpec := { name := "lawS3292CStep", fn := fun _ => fun
  | [d1, d2, d3, d4] => { results := [.lit (.bool false)], args := [d1, d2, d3, d4] }
  | _ => none }
def LawS3292CStepWrongFalsely : Prop := lawS3292CStepRow.holds Yba.pinned (OpenSpec.ofChange lawS3292CStepWrong)

/-- 'lock.LawS3292CScript': WHATEVER THE INPUT: true; the input reads as it did. -/
def lawS3292CScriptSpec : ChangeSpec := { name := "lawS3292CScript", fn := fun _ => fun
  | [d] => { results := [.lit (.bool true)], args := [d] }
  | _ => none }
def lawS3292CScriptRow : OpenClaim := { program := "ybulkbpdq", sum := "07d310e1862c574b5c65792d388f7844aef34257e34f4600845d1d1920a8cb65", func := "example.com/latchwork/latchwork/lock.LawS3292CScript", spec := "lawS3292CScript", apart := false }
def LawS3292CScriptSaid : Prop := lawS3292CScriptRow.holds Yba.pinned (OpenSpec.ofChange lawS3292CScriptSpec)

/-- ITS FALSE NEIGHBOUR: 'it returns false'. Refute it at one input. -/
def lawS3292CScriptWrong : ChangeSpec := { name := "lawS3292CScript", fn := fun _ => fun
  | [d] => { results := [.lit (.bool false)], args := [d] }
  | _ => none }
def LawS3292CScriptWrongFalsely : Prop := lawS3292CScriptRow.holds Yba.pinned (OpenSpec.ofChange lawS3292CScriptWrong)

end Rows
end Go.Proofs.Ybulkbpdq
