import Derived.Test.YbulkbpcaSet2
namespace Go.Proofs.Ybulkbpca
open Go.ChangeShapes Go.WideShapes Go.ChangeAt Go.RowKit
set_option linter.unusedVariables false
attribute [local go_sem ↓] Go.wp_at_zero Go.wp_at_succ
attribute [local go_sem ↓] eq_peer
attribute [local go_sem] guard_peer field_key

def ltB (a b : ByteArray) : Bool := Op.bytesLess a.toList b.toList
def eqB (a b : ByteArray) : Bool := a.toList == b.toList

/-- 'onArc'. -/
def arc (f k t : ByteArray) : Bool := if ltB f t then (ltB f k || eqB f k) && ltB k t else !ltB k f || ltB k t

set_option maxRecDepth 100000 in
set_option maxHeartbeats 1000000 in
theorem onArc_any (f k t : ByteArray) (w : World) :
    Calls Yba.prog 17 #[.string f, .string k, .string t] w fun e w' => e = .returned (.bool (arc f k t)) ∧ w' = w := by
  cases h1 : Op.bytesLess f.toList t.toList
  · have HF : Hid (arc f k t = (!ltB k f || ltB k t)) := by unfold arc ltB; rw [h1]; rfl
    cases h2 : Op.bytesLess k.toList f.toList
    · have HG : Hid (arc f k t = true) := by rw [HF.out]; unfold ltB; rw [h2]; rfl
      go_enter Yba.func17, Yba.ntmps17
      go_wp2
      go_ret
      exact ⟨by rw [HG.out]; rfl, rfl⟩
    · have HG : Hid (arc f k t = Op.bytesLess k.toList t.toList) := by rw [HF.out]; unfold ltB; rw [h2]; rfl
      go_enter Yba.func17, Yba.ntmps17
      go_wp2
      go_ret
      exact ⟨by rw [HG.out]; rfl, rfl⟩
  · have HF : Hid (arc f k t = ((ltB f k || eqB f k) && ltB k t)) := by unfold arc ltB; rw [h1]; rfl
    cases h2 : (Op.bytesLess f.toList k.toList || f.toList == k.toList)
    · have HG : Hid (arc f k t = false) := by rw [HF.out]; unfold ltB eqB; rw [h2]; rfl
      go_enter Yba.func17, Yba.ntmps17
      go_wp2
      go_ret
      exact ⟨by rw [HG.out]; rfl, rfl⟩
    · have HG : Hid (arc f k t = Op.bytesLess k.toList t.toList) := by rw [HF.out]; unfold ltB eqB; rw [h2]; rfl
      go_enter Yba.func17, Yba.ntmps17
      go_wp2
      go_ret
      exact ⟨by rw [HG.out]; rfl, rfl⟩

set_option maxRecDepth 100000 in
set_option maxHeartbeats 1000000 in
theorem within_any (f k t : ByteArray) (w : World) :
    Calls Yba.prog 23 #[.string f, .string k, .string t] w fun e w' => e = .returned (.bool (!arc f t k)) ∧ w' = w := by
  go_enter Yba.func23, Yba.ntmps23
  go_wp2_with fail
  refine (onArc_any _ _ _ _).mono ?_
  rintro e w' ⟨rfl, rfl⟩
  go_wp2
  go_ret
  exact ⟨rfl, rfl⟩

set_option maxRecDepth 100000 in
set_option maxHeartbeats 1000000 in
theorem succ_any (N : Nat) (sk sa : ByteArray) (w : World) (c21 : w.cell? ⟨N, 21, none⟩ = some (.slice (some ⟨N, 66, none⟩) 1 18)) (c66 : w.cell? ⟨N, 66, none⟩ = some (.string sk)) (c67 : w.cell? ⟨N, 67, none⟩ = some (.string sa)) (hN : N < w.heap.size) :
    Calls Yba.prog 18 #[.pointer (some ⟨N, 0, none⟩)] w fun e w' => e = .returned (.agg #[.string sk, .string sa]) ∧ Below w.heap.size w w' := by
  go_enter Yba.func18, Yba.ntmps18
  go_wp2
  refine bodyPost_ret (v := .agg #[.string sk, .string sa]) (by simp [results, Yba.results18, go_sem]) rfl ⟨rfl, ?_⟩
  exact (Below.refl _ _).alloc (Nat.le_refl _) _

set_option maxRecDepth 100000 in
set_option maxHeartbeats 1000000 in
theorem owns_any (N : Nat) (uk sk sa k : ByteArray) (w : World) (c0 : w.cell? ⟨N, 0, none⟩ = some (.string uk)) (c21 : w.cell? ⟨N, 21, none⟩ = some (.slice (some ⟨N, 66, none⟩) 1 18)) (c66 : w.cell? ⟨N, 66, none⟩ = some (.string sk)) (c67 : w.cell? ⟨N, 67, none⟩ = some (.string sa)) (hN : N < w.heap.size) :
    Calls Yba.prog 11 #[.pointer (some ⟨N, 0, none⟩), .string k] w fun e w' => e = .returned (.bool (arc uk k sk)) ∧ Below w.heap.size w w' := by
  go_enter Yba.func11, Yba.ntmps11
  go_wp2
  go_region_with (first | (go_at_call 18; refine (succ_any N sk sa _ (by exact c21) (by exact c66) (by exact c67) (by exact hN)).mono ?_; rintro e w2 ⟨rfl, hB2⟩; have d0 := (hB2.cell (p := ⟨N, 0, none⟩) hN).trans c0) | (go_at_call 17; refine (onArc_any _ _ _ _).mono ?_; rintro e w3 ⟨rfl, rfl⟩))
  all_goals go_wp2
  all_goals go_ret
  all_goals exact ⟨rfl, (Below.refl _ w).drew.trans hB2⟩
end Go.Proofs.Ybulkbpca
