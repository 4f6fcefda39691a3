/-
  No cell of these rows narrows 'for every input' (looked for: loops, veiled, ifaces, maps, wideKeys, modest, calm, conditions, laid).
  DERIVED. THE GIVEN ROWS OF THIS SEAT. 2 by the template 'for every input the law returns true; each argument reads behind the call as it read before'; 0 by the template 'total and deterministic' (their statements: YbulkbpcaGreatTotals.lean).
  GIVEN WITH THE SEED: the statements are not yours to turn. If you find one false, say at which input.
  Laid BY PROGRAM, IN A SANDBOX (cutbox-rows.mjs): the forced cells as the released guide's own fill.sh prints them over the translation ac911a0e4aa087b3… (all of the seat's roots in one cut). By AI agents, Wed Nov 11 2026. No macro, syntax, notation, axiom, sorry.
-/
import Derived.Test.YbulkbpcaGreatChecked
import GoSem.Claim
import GoSem.ClaimJoined
import GoSem.ClaimMapViews
import Derived.JoinedTies
import Derived.KernelRfl
namespace Go.Proofs.YbulkbpcaGreat
/- THE CELL 'sum', in the pinned program and in every row, IS THE sha256 OF THE DUMP (.gsa) THAT YbulkbpcaGreatProg.lean LOADS. Nothing in Lean hashes anything: it is a label: what it is worth is what the hold of that sum in a sandbox is worth. -/
noncomputable def Ybaz.pinned : Pinned := { name := "ybulkbpcagreat", sum := "ac911a0e4aa087b3dde1e7cce9356a4d63fff73cc92938168e9fe4c2a6e999cb", checked := Ybaz.checked }
namespace Rows
def none {H : Type} : Left H := { results := [], args := [] }

/-- 'ring.LawS3289BStep': WHATEVER THE INPUT: true; the input reads as it did. -/
def lawS3289BStepSpec : ChangeSpec := { name := "lawS3289BStep", fn := fun _ => fun
  | [d1, d2, d3, d4, d5, d6, d7, d8, d9, d10, d11] => { results := [.lit (.bool true)], args := [d1, d2, d3, d4, d5, d6, d7, d8, d9, d10, d11] }
  | _ => none }
def lawS3289BStepRow : OpenClaim := { program := "ybulkbpcagreat", sum := "ac911a0e4aa087b3dde1e7cce9356a4d63fff73cc92938168e9fe4c2a6e999cb", func := "example.com/ringspan/ringspan/internal/ring.LawS3289BStep", spec := "lawS3289BStep", inPlace := ["internal/reflectlite.ValueOf", "internal/reflectlite.Swapper", "(internal/reflectlite.Value).Len"], unfollowed := true, recurses := true, plainKeys := false, apart := false }
def LawS3289BStepSaid : Prop := lawS3289BStepRow.holds Ybaz.pinned (OpenSpec.ofChange lawS3289BStepSpec)

/-- ITS FALSE NEIGHBOUR: 'it returns false'. Refute it at one input. -/
def lawS3289BStepWrong : ChangeSpec := { name := "lawS3289BStep", fn := fun _ => fun
  | [d1, d2, d3, d4, d5, d6, d7, d8, d9, d10, d11] => { results := [.lit (.bool false)], args := [d1, d2, d3, d4, d5, d6, d7, d8, d9, d10, d11] }
  | _ => none }
def LawS3289BStepWrongFalsely : Prop := lawS3289BStepRow.holds Ybaz.pinned (OpenSpec.ofChange lawS3289BStepWrong)

/-- 'ring.LawS3289BDone': WHATEVER THE INPUT: true; the input reads as it did. -/
def lawS3289BDoneSpec : ChangeSpec := { name := "lawS3289BDone", fn := fun _ => fun
  | [d1, d2, d3] => { results := [.lit (.bool true)], args := [d1, d2, d3] }
  | _ => none }
def lawS3289BDoneRow : OpenClaim := { program := "ybulkbpcagreat", sum := "ac911a0e4aa087b3dde1e7cce9356a4d63fff73cc92938168e9fe4c2a6e999cb", func := "example.com/ringspan/ringspan/internal/ring.LawS3289BDone", spec := "lawS3289BDone", inPlace := ["internal/reflectlite.ValueOf", "internal/reflectlite.Swapper", "(internal/reflectlite.Value).Len"], unfollowed := true, recurses := true, plainKeys := false, apart := false }
def LawS3289BDoneSaid : Prop := lawS3289BDoneRow.holds Ybaz.pinned (OpenSpec.ofChange lawS3289BDoneSpec)

/-- ITS FALSE NEIGHBOUR: 'it returns false'. Refute it at one input. -/
def lawS3289BDoneWrong : ChangeSpec := { name := "lawS3289BDone", fn := fun _ => fun
  | [d1, d2, d3] => { results := [.lit (.bool false)], args := [d1, d2, d3] }
  | _ => none }
def LawS3289BDoneWrongFalsely : Prop := lawS3289BDoneRow.holds Ybaz.pinned (OpenSpec.ofChange lawS3289BDoneWrong)

end Rows
end Go.Proofs.YbulkbpcaGreat
