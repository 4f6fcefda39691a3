/-
  No cell of these rows narrows 'for every input' (looked for: loops, veiled, ifaces, maps, wideKeys, modest, calm, conditions, laid).
  DERIVED. THE GIVEN ROWS OF THIS SEAT. 1 by the template 'for every input the law returns true; each argument reads behind the call as it read before'; 0 by the template 'total and deterministic' (their statements: YbulkbpkcTotals.lean).
  GIVEN WITH THE SEED: the statements are not yours to turn. If you find one false, say at which input.
  Laid BY PROGRAM, IN A SANDBOX (cutbox-rows.mjs): the forced cells as the released guide's own fill.sh prints them over the translation 2c6d9004ff4ca2e0… (all of the seat's roots in one cut). By AI agents, Wed Nov 11 2026. No macro, syntax, notation, axiom, sorry.
-/
import Derived.Test.YbulkbpkcChecked
import GoSem.Claim
import GoSem.ClaimJoined
import GoSem.ClaimMapViews
import Derived.JoinedTies
import Derived.KernelRfl
namespace Go.Proofs.Ybulkbpkc
/- THE CELL 'sum', in the pinned program and in every row, IS THE sha256 OF THE DUMP (.gsa) THAT YbulkbpkcProg.lean LOADS. Nothing in Lean hashes anything: it is a label: what it is worth is what the hold of that sum in a sandbox is worth. -/
noncomputable def Yba.pinned : Pinned := { name := "ybulkbpkc", sum := "2c6d9004ff4ca2e05d348ce7085a4df95aa757d2681c2885527a29cfca768460", checked := Yba.checked }
namespace Rows
def none {H : Type} : Left H := { results := [], args := [] }

/-- 'ransim.LawS3304BCancellation': WHATEVER THE INPUT: true; the input reads as it did. -/
def lawS3304BCancellationSpec : ChangeSpec := { name := "lawS3304BCancellation", fn := fun _ => fun
  | [d1, d2, d3, d4, d5, d6, d7, d8] => { results := [.lit (.bool true)], args := [d1, d2, d3, d4, d5, d6, d7, d8] }
  | _ => none }
def lawS3304BCancellationRow : OpenClaim := { program := "ybulkbpkc", sum := "2c6d9004ff4ca2e05d348ce7085a4df95aa757d2681c2885527a29cfca768460", func := "example.com/tocsin/tocsin/pkg/ransim.LawS3304BCancellation", spec := "lawS3304BCancellation", unfollowed := true, recurses := true, plainKeys := false, apart := false }
def LawS3304BCancellationSaid : Prop := lawS3304BCancellationRow.holds Yba.pinned (OpenSpec.ofChange lawS3304BCancellationSpec)

/-- ITS FALSE NEIGHBOUR: 'it returns false'. Refute it at one input. -/
def lawS3304BCancellationWrong : ChangeSpec := { name := "lawS3304BCancellation", fn := fun _ => fun
  | [d1, d2, d3, d4, d5, d6, d7, d8] => { results := [.lit (.bool false)], args := [d1, d2, d3, d4, d5, d6, d7, d8] }
  | _ => none }
def LawS3304BCancellationWrongFalsely : Prop := lawS3304BCancellationRow.holds Yba.pinned (OpenSpec.ofChange lawS3304BCancellationWrong)

end Rows
end Go.Proofs.Ybulkbpkc
