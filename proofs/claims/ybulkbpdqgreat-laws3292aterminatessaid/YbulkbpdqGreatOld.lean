import Derived.Test.YbulkbpdqGreatBlk
import Derived.Deep.RegionLaw
import Derived.Deep.RegionWith
import Derived.Deep.AppendLies
import Derived.Deep.DeepCutAuto
import Derived.RegionCalls
namespace Go.Proofs.YbulkbpdqGreat
open Go.ChangeShapes Go.WideShapes Go.ChangeAt Go.RowKit
set_option linter.unusedVariables false

set_option maxRecDepth 100000 in
theorem id_any (b : Nat) (x : Int) (w : World) (h : w.cell? ⟨b, 0, none⟩ = some (.int .u64 x)) :
    Calls Ybaz.prog 46 #[.pointer (some ⟨b, 0, none⟩)] w fun e w' => e = .returned (.int .u64 x) ∧ w' = w := by
  go_enter Ybaz.func46, Ybaz.ntmps46
  go_wp2
  go_ret
  exact ⟨rfl, rfl⟩

set_option maxRecDepth 100000 in
set_option maxHeartbeats 1000000 in
theorem older_val (x y : Int) (w : World) :
    Calls Ybaz.prog 77 #[.agg #[.int .u64 0, .int .u64 x, .bool false], .agg #[.int .u64 0, .int .u64 y, .bool false]] w fun e w' => e = .returned (.bool (decide (x < y))) ∧ Below w.heap.size w w' := by
  by_cases h1 : x < y
  · have hd : decide (x < y) = true := decide_eq_true h1
    go_enter Ybaz.func77, Ybaz.ntmps77
    go_wp2
    go_ret
    exact ⟨by rw [hd]; rfl, ((Below.refl _ _).alloc (Nat.le_refl _) _).alloc (by simp) _⟩
  · have hd : decide (x < y) = false := decide_eq_false h1
    by_cases h2 : x = y
    · have he : (x == y) = true := by simpa using h2
      clear h2
      go_enter Ybaz.func77, Ybaz.ntmps77
      go_wp2
      go_ret
      exact ⟨rfl, ((Below.refl _ _).alloc (Nat.le_refl _) _).alloc (by simp) _⟩
    · have he : (x == y) = false := by simpa using h2
      clear h2
      go_enter Ybaz.func77, Ybaz.ntmps77
      go_wp2
      go_ret
      exact ⟨rfl, ((Below.refl _ _).alloc (Nat.le_refl _) _).alloc (by simp) _⟩

set_option maxRecDepth 100000 in
set_option maxHeartbeats 8000000 in
theorem older_any (b c : Nat) (x y : Int) (w : World) (hb : w.cell? ⟨b, 0, none⟩ = some (.int .u64 0)) (hx : w.cell? ⟨b, 13, none⟩ = some (.int .u64 x)) (hc : w.cell? ⟨c, 0, none⟩ = some (.int .u64 0)) (hy : w.cell? ⟨c, 13, none⟩ = some (.int .u64 y)) :
    Calls Ybaz.prog 52 #[.pointer (some ⟨b, 0, none⟩), .pointer (some ⟨c, 0, none⟩)] w fun e w' => e = .returned (.bool (decide (x < y))) ∧ Below w.heap.size w w' := by
  go_enter Ybaz.func52, Ybaz.ntmps52
  go_wp2_with fail
  go_region_with (first | (go_at_call 46; refine (id_any b 0 _ (by exact hb)).mono ?_; rintro e w1 ⟨rfl, rfl⟩) | (go_at_call 46; refine (id_any c 0 _ (by exact hc)).mono ?_; rintro e w1 ⟨rfl, rfl⟩) | (go_at_call 77; refine (older_val x y _).mono ?_; rintro e w2 ⟨rfl, hB⟩))
  all_goals
    go_wp2_with fail
    go_ret
    exact ⟨rfl, (Below.refl _ w).drew.trans hB⟩
end Go.Proofs.YbulkbpdqGreat
