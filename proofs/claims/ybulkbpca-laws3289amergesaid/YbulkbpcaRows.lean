/-
  No cell of these rows narrows 'for every input' (looked for: loops, veiled, ifaces, maps, wideKeys, modest, calm, conditions, laid).
  DERIVED. THE GIVEN ROWS OF THIS SEAT. 1 by the template 'for every input the law returns true; each argument reads behind the call as it read before'; 0 by the template 'total and deterministic' (their statements: YbulkbpcaTotals.lean).
  GIVEN WITH THE SEED: the statements are not yours to turn. If you find one false, say at which input.
  Laid BY PROGRAM, IN A SANDBOX (cutbox-rows.mjs): the forced cells as the released guide's own fill.sh prints them over the translation 0837f8dc2d34055f… (all of the seat's roots in one cut). By AI agents, Wed Nov 11 2026. No macro, syntax, notation, axiom, sorry.
-/
import Derived.Test.YbulkbpcaChecked
import GoSem.Claim
import GoSem.ClaimJoined
import GoSem.ClaimMapViews
import Derived.JoinedTies
import Derived.KernelRfl
namespace Go.Proofs.Ybulkbpca
/- THE CELL 'sum', in the pinned program and in every row, IS THE sha256 OF THE DUMP (.gsa) THAT YbulkbpcaProg.lean LOADS. Nothing in Lean hashes anything: it is a label: what it is worth is what the hold of that sum in a sandbox is worth. -/
noncomputable def Yba.pinned : Pinned := { name := "ybulkbpca", sum := "0837f8dc2d34055f6fe33ac82a8b3515275faeb5cd2c0de138723300c8d0479f", checked := Yba.checked }
namespace Rows
def none {H : Type} : Left H := { results := [], args := [] }

/-- 'ring.LawS3289AMerge': WHATEVER THE INPUT: true; the input reads as it did. -/
def lawS3289AMergeSpec : ChangeSpec := { name := "lawS3289AMerge", fn := fun _ => fun
  | [d1, d2, d3, d4, d5, d6, d7, d8, d9, d10, d11] => { results := [.lit (.bool true)], args := [d1, d2, d3, d4, d5, d6, d7, d8, d9, d10, d11] }
  | _ => none }
def lawS3289AMergeRow : OpenClaim := { program := "ybulkbpca", sum := "0837f8dc2d34055f6fe33ac82a8b3515275faeb5cd2c0de138723300c8d0479f", func := "example.com/ringspan/ringspan/internal/ring.LawS3289AMerge", spec := "lawS3289AMerge", inPlace := ["internal/reflectlite.ValueOf", "internal/reflectlite.Swapper", "(internal/reflectlite.Value).Len"], unfollowed := true, recurses := true, plainKeys := false, apart := false }
def LawS3289AMergeSaid : Prop := lawS3289AMergeRow.holds Yba.pinned (OpenSpec.ofChange lawS3289AMergeSpec)

/-- ITS FALSE NEIGHBOUR: 'it returns false'. Refute it at one input. -/
def lawS3289AMergeWrong : ChangeSpec := { name := "lawS3289AMerge", fn := fun _ => fun
  | [d1, d2, d3, d4, d5, d6, d7, d8, d9, d10, d11] => { results := [.lit (.bool false)], args := [d1, d2, d3, d4, d5, d6, d7, d8, d9, d10, d11] }
  | _ => none }
def LawS3289AMergeWrongFalsely : Prop := lawS3289AMergeRow.holds Yba.pinned (OpenSpec.ofChange lawS3289AMergeWrong)

end Rows
end Go.Proofs.Ybulkbpca
