import Derived.Test.YbulkbpcaGreatRungs
import Derived.Test.YbulkbpcaGreatEq
namespace Go.Proofs.YbulkbpcaGreat
open Go.ChangeShapes Go.WideShapes Go.ChangeAt Go.RowKit
set_option linter.unusedVariables false
attribute [local go_sem ↓] eq_peer
attribute [local go_sem] guard_peer field_key

theorem clear_none (w : World) : Sem.run Ybaz.prog (Builtin.clear_ #[51] 0 #[.slice none 0 0]) w = .ok (.tuple #[]) w := by kernel_rfl

set_option maxRecDepth 100000 in
set_option maxHeartbeats 1000000 in
/-- 'expire' where nothing waits. -/
theorem expire_none (N : Nat) (w : World) (hN : N < w.heap.size) (c13 : w.cell? ⟨N, 13, none⟩ = some (.slice none 0 0)) (f13 : w.frozen? ⟨N, 13, none⟩ = false) :
    Calls Ybaz.prog 12 #[.pointer (some ⟨N, 0, none⟩)] w fun e w' => e = .returned (.tuple #[]) ∧ w' = w.setCell ⟨N, 13, none⟩ (.slice none 0 0) := by
  have hcl := clear_none w
  go_enter Ybaz.func12, Ybaz.ntmps12
  go_wp2
  refine wp_loop_rounds 1 ?_
  rw [rounds_succ]
  go_wp2
  go_end0
  exact ⟨rfl, rfl⟩

set_option maxRecDepth 100000 in
set_option maxHeartbeats 1000000 in
/-- 'resume' where nothing waits. -/
theorem resume_none (N : Nat) (w : World) (hN : N < w.heap.size) (c13 : w.cell? ⟨N, 13, none⟩ = some (.slice none 0 0)) (f13 : w.frozen? ⟨N, 13, none⟩ = false) :
    Calls Ybaz.prog 22 #[.pointer (some ⟨N, 0, none⟩)] w fun e w' => e = .returned (.tuple #[]) ∧ w' = w.setCell ⟨N, 13, none⟩ (.slice none 0 0) := by
  go_enter Ybaz.func22, Ybaz.ntmps22
  go_wp2
  refine wp_loop_rounds 1 ?_
  rw [rounds_succ]
  go_wp2
  go_end0
  exact ⟨rfl, rfl⟩

set_option maxRecDepth 100000 in
set_option maxHeartbeats 1000000 in
theorem opposite_any (d : Int) (w : World) (h : d = 0 ∨ d = 1) : Calls Ybaz.prog 17 #[.int .u8 d] w fun e w' => e = .returned (.int .u8 (1 - d)) ∧ w' = w := by
  rcases h with rfl | rfl
  all_goals
    go_enter Ybaz.func17, Ybaz.ntmps17
    go_wp2
    go_ret
    exact ⟨rfl, rfl⟩

set_option maxRecDepth 100000 in
set_option maxHeartbeats 1000000 in
/-- 'sync' at a node without records. -/
theorem sync_none (N : Nat) (w : World) (c15 : w.cell? ⟨N, 15, none⟩ = some (.map none)) (c16 : w.cell? ⟨N, 16, none⟩ = some (.map none)) :
    Calls Ybaz.prog 43 #[.pointer (some ⟨N, 0, none⟩)] w fun e w' => e = .returned (.tuple #[]) ∧ w' = w := by
  go_enter Ybaz.func43, Ybaz.ntmps43
  go_wp2
  exact bodyPost_ret (v := .tuple #[]) (by simp [results, Ybaz.results43, go_sem]) rfl ⟨rfl, rfl⟩

set_option maxRecDepth 100000 in
set_option maxHeartbeats 1000000 in
/-- 'tickRecords' at a node without records, moves, writes, leavers. -/
theorem tickRecords_none (N : Nat) (w : World) (hN : N < w.heap.size) (c15 : w.cell? ⟨N, 15, none⟩ = some (.map none)) (c16 : w.cell? ⟨N, 16, none⟩ = some (.map none)) (c17 : w.cell? ⟨N, 17, none⟩ = some (.map none)) (c18 : w.cell? ⟨N, 18, none⟩ = some (.map none)) (c58 : w.cell? ⟨N, 58, none⟩ = some (.map none)) :
    Calls Ybaz.prog 21 #[.pointer (some ⟨N, 0, none⟩)] w fun e w' => e = .returned (.tuple #[]) ∧ w' = w.alloc (.cells #[.pointer (some ⟨N, 0, none⟩)] 31) := by
  go_enter Ybaz.func21, Ybaz.ntmps21
  go_wp2_with fail
  refine (sync_none N _ (by rw [World.cell?_alloc_past _ _ _ hN]; exact c15) (by rw [World.cell?_alloc_past _ _ _ hN]; exact c16)).mono ?_
  rintro e w' ⟨rfl, rfl⟩
  go_wp2
  go_end0
  exact ⟨rfl, rfl⟩

set_option maxRecDepth 100000 in
set_option maxHeartbeats 1000000 in
/-- 'sendMerges' at a node without contacts. -/
theorem sendMerges_none (N : Nat) (w : World) (c19 : w.cell? ⟨N, 19, none⟩ = some (.slice none 0 0)) (c20 : w.cell? ⟨N, 20, none⟩ = some (.slice none 0 0)) :
    Calls Ybaz.prog 14 #[.pointer (some ⟨N, 0, none⟩)] w fun e w' => e = .returned (.tuple #[]) ∧ ∃ q, w' = w.drewN q := by
  go_enter Ybaz.func14, Ybaz.ntmps14
  go_wp2_with fail
  go_quiet (fail)
  go_wp2_with fail
  exact bodyPost_ret (v := .tuple #[]) (by simp [results, Ybaz.results14, go_sem]) rfl ⟨rfl, _, rfl⟩
end Go.Proofs.YbulkbpcaGreat
