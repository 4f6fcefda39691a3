/-
  THE SHELL OF A PROOF OF 'Rows.LawS3292AAdaptsSaid' ('example.com/latchwork/latchwork/c2v2pl.LawS3292AAdapts'), WRITTEN BY PROGRAM (proof-skeleton.mjs) off the guide's own print for that function. Not trusted: Lean checks it.
  The walk is filled ('Below' in the place of 'Grown': the frame's append makes the world a variable); all else is the guide's template at this function's number and types.
-/
import Derived.Test.YbulkbpdqGreatRows
import Derived.Test.YbulkbpdqGreatAdapt3
import Derived.WalkKit
import Derived.ProofKit
import Derived.OpenShut
import Derived.ShutString
import Derived.ChangeOld
import Derived.Below
namespace Go.Proofs.YbulkbpdqGreat.lawS3292AAdapts
open Go.ChangeShapes Go.WideShapes Go.ChangeAt Go.RowKit
open Go.ChangeMaps (open_string shut_string)
set_option linter.unusedVariables false      -- a walk need not use every 'w<i>' (that an integer argument fits its kind)

theorem own : ownKnob Ybaz.prog.godebug = none := by kernel_rfl

/-! ### STEP 1: THE WALK: the Go text returns true, and writes nothing that was there. Part the cases AHEAD of 'go_enter' where a test parts the walk; take each callee by a contract of your own. -/
theorem walk (a0 : Bool) (a1 : Bool) (a2 : Int) (a3 : Int) (a4 : Int) (w2 : (Lit.int .u64 a2).wf = true) (w3 : (Lit.int .i64 a3).wf = true) (w4 : (Lit.int .i64 a4).wf = true) (w : World) :
    Calls Ybaz.prog 4 #[.bool a0, .bool a1, .int .u64 a2, .int .i64 a3, .int .i64 a4] w fun e w' => e = .returned (.bool true) ∧ Below w.heap.size w w' := by
  exact adapts_walk a0 a1 a2 a3 a4 w

/-! ### THE ROW's STEP: WRITTEN OUT: LEAVE IT -/
set_option maxRecDepth 100000 in
theorem lifted (os : Os) (started : os.Started) (H : Type) (enc : TypeId × Value → H) :
    ReturnsInHanded {} Ybaz.checked os 4 .any (Rows.lawS3292AAdaptsSpec.pre6 enc Ybaz.prog Ybaz.f4 Rows.lawS3292AAdaptsRow.domain false) (Rows.lawS3292AAdaptsSpec.post enc Ybaz.prog Ybaz.f4 false true false false) := by
  refine returnsInHanded_of_change (C := Ybaz.checked) own started (by kernel_rfl) Ybaz.func4
    (ChangeSpec.witness6 (enc := enc) (C := Ybaz.checked) false ⟨#[], #[.bool false, .bool false, .int .u64 0, .int .i64 0, .int .i64 0], []⟩ 8 (by kernel_rfl) (by kernel_rfl) (by kernel_rfl) (by kernel_rfl)) ?_
  intro W base args ds gs before hval0 hW hcnd _
  have hval : ∀ (j : Nat) t v, Ybaz.f4.params[j]? = some t → args[j]? = some v → Value.okWide Ybaz.prog W .any base t v := hval0
  have hW' := hW
  obtain ⟨p, q, hA0, hV, rfl, hfz, hnd⟩ := hW
  have hA : DataW.TrodAll enc Ybaz.prog W 0 (fun _ => true) true Ybaz.f4.params.toList args.toList ds p := hA0
  rw [Ybaz.params4] at hA hval
  obtain ⟨v0, vs0, d0, ds0, p0, q0, hargs, rfl, rfl, h0, r0⟩ := trodAll_cons hA
  obtain ⟨v1, vs1, d1, ds1, p1, q1, rfl, rfl, rfl, h1, r1⟩ := trodAll_cons r0
  obtain ⟨v2, vs2, d2, ds2, p2, q2, rfl, rfl, rfl, h2, r2⟩ := trodAll_cons r1
  obtain ⟨v3, vs3, d3, ds3, p3, q3, rfl, rfl, rfl, h3, r3⟩ := trodAll_cons r2
  obtain ⟨v4, vs4, d4, ds4, p4, q4, rfl, rfl, rfl, h4, r4⟩ := trodAll_cons r3
  obtain ⟨rfl, rfl, rfl⟩ := trodAll_nil r4
  obtain rfl : args = #[v0, v1, v2, v3, v4] := by cases args; simp_all
  obtain ⟨rfl, rfl⟩ := trodVars_none hV
  obtain ⟨a0, rfl, rfl, rfl⟩ := open_bool Ybaz.underlying4 (hval 0 4 v0 rfl rfl) h0
  obtain ⟨a1, rfl, rfl, rfl⟩ := open_bool Ybaz.underlying4 (hval 1 4 v1 rfl rfl) h1
  obtain ⟨a2, rfl, rfl, rfl, w2⟩ := open_int Ybaz.underlying35 (hval 2 35 v2 rfl rfl) h2
  obtain ⟨a3, rfl, rfl, rfl, w3⟩ := open_int Ybaz.underlying3 (hval 3 3 v3 rfl rfl) h3
  obtain ⟨a4, rfl, rfl, rfl, w4⟩ := open_int Ybaz.underlying3 (hval 4 3 v4 rfl rfl) h4
  clear hA0 hval0
  refine (walk a0 a1 a2 a3 a4 w2 w3 w4 W).mono fun e W' ⟨he, bel⟩ => ?_
  subst he
  exact ⟨_, rfl, _, _, _, [], _, [], hW', trodAll_mk1 (shut_bool Ybaz.underlying4 _), (trodAll_cons_mk (shut_bool Ybaz.underlying4 _) (trodAll_cons_mk (shut_bool Ybaz.underlying4 _) (trodAll_cons_mk (shut_int Ybaz.underlying35 w2) (trodAll_cons_mk (shut_int Ybaz.underlying3 w3) (trodAll_cons_mk (shut_int Ybaz.underlying3 w4) trodAll_mk0))))), rfl, bel.frame _, fun h => by cases h⟩

theorem over : Rows.lawS3292AAdaptsRow.holds Ybaz.pinned (OpenSpec.ofChange Rows.lawS3292AAdaptsSpec) :=
  OpenClaim.holds_of_wide 4 Ybaz.f4 rfl rfl rfl rfl rfl rfl rfl ⟨rfl, rfl, rfl, rfl, rfl⟩ rfl rfl rfl rfl rfl (by kernel_rfl) Ybaz.func4 (by kernel_rfl)
    (of_decide_eq_true (by kernel_rfl)) (by unfold Func.isWrapper; first | (rw [if_pos (by decide +kernel)]; kernel_rfl) | (rw [if_neg (by decide +kernel)]; exact ⟨rfl, rfl⟩))
    (fun os started H enc _ => lifted os started H enc)

/-- ████ THE STATEMENT ████ -/
theorem proved : Rows.LawS3292AAdaptsSaid :=
  over
#print axioms proved
end Go.Proofs.YbulkbpdqGreat.lawS3292AAdapts
