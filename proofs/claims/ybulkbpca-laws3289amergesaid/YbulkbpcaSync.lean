import Derived.Test.YbulkbpcaList
import Derived.Laws.IdiomRangeMap
namespace Go.Proofs.Ybulkbpca
open Go.ChangeShapes Go.WideShapes Go.ChangeAt Go.RowKit
set_option linter.unusedVariables false
attribute [local go_sem ↓] Go.wp_at_zero Go.wp_at_succ
attribute [local go_sem ↓] eq_peer
attribute [local go_sem] guard_peer field_key

set_option maxRecDepth 100000 in
set_option maxHeartbeats 1000000 in
theorem forget_none (N : Nat) (f : Value) (w : World) (c56 : w.cell? ⟨N, 56, none⟩ = some (.map none)) :
    Calls Yba.prog 34 #[.pointer (some ⟨N, 0, none⟩), f] w fun e w' => e = .returned (.tuple #[]) ∧ Below w.heap.size w w' := by
  have hrg := fun w => run_range_nilMap (P := Yba.prog) w 52 _ _ Yba.underlying52
  have hnx : ∀ ty, (Instr.next (.pointer (some ⟨w.heap.size, 0, none⟩)) false ty).run Yba.prog (w.alloc (.mapIter none 0 #[] 0)) = _ := fun ty => run_next_nilMap w ty 0 0 #[]
  go_enter Yba.func34, Yba.ntmps34
  go_wp2
  refine wp_loop_rounds 1 ?_
  rw [rounds_succ]
  go_wp2
  go_end0
  exact ⟨rfl, (Below.refl _ _).alloc (Nat.le_refl _) _⟩

theorem clear_nil (w : World) : Sem.run Yba.prog (Builtin.clear_ #[50] 0 #[.map none]) w = .ok (.tuple #[]) w := by kernel_rfl

set_option maxRecDepth 100000 in
set_option maxHeartbeats 1000000 in
theorem resync_none (N : Nat) (d : Int) (hd : d = 0 ∨ d = 1) (w : World) (hN : N < w.heap.size) (c54 : w.cell? ⟨N, 54, none⟩ = some (.map none)) (c55 : w.cell? ⟨N, 55, none⟩ = some (.map none)) (c56 : w.cell? ⟨N, 56, none⟩ = some (.map none)) :
    Calls Yba.prog 31 #[.pointer (some ⟨N, 0, none⟩), .int .u8 d] w fun e w' => e = .returned (.tuple #[]) ∧ Below w.heap.size w w' := by
  have hcl := clear_nil
  have hB : ∀ v, Below w.heap.size w (w.alloc (.cells #[v] 58)) := fun v => (Below.refl _ _).alloc (Nat.le_refl _) _
  rcases hd with rfl | rfl
  all_goals
    go_enter Yba.func31, Yba.ntmps31
    go_wp2
    go_region
    go_wp2_with fail
    refine (forget_none N _ _ (by go_simp)).mono ?_
    rintro e w2 ⟨rfl, hB2⟩
    go_wp2
    go_end0
    exact ⟨rfl, (hB _).drew.trans (hB2.mono (by simp))⟩

set_option maxRecDepth 100000 in
set_option maxHeartbeats 1000000 in
theorem opposite_any (d : Int) (hd : d = 0 ∨ d = 1) (w : World) :
    Calls Yba.prog 39 #[.int .u8 d] w fun e w' => e = .returned (.int .u8 (1 - d)) ∧ w' = w := by
  rcases hd with rfl | rfl
  all_goals
    go_enter Yba.func39, Yba.ntmps39
    go_wp2
    go_ret
    exact ⟨rfl, rfl⟩

set_option maxRecDepth 100000 in
set_option maxHeartbeats 1000000 in
/-- 'tellLists(Forward)': there is no predecessor to tell. -/
theorem tell_none (N : Nat) (c : Nat → Value) (uk ua : ByteArray) (ad : Option Addr) (cap : Nat) (r : Int) (w : World) (hb : Blk w N 258 c) (hN : N < w.heap.size)
    (h0 : c 0 = .string uk) (h1 : c 1 = .string ua) (h3 : c 3 = .bool false) (h7 : c 7 = .int .i64 r) (h32 : c 32 = .slice ad 0 cap) :
    Calls Yba.prog 30 #[.pointer (some ⟨N, 0, none⟩), .int .u8 0] w fun e w' => e = .returned (.tuple #[]) ∧ Below w.heap.size w w' := by
  have c0 : w.cell? ⟨N, 0, none⟩ = some (.string uk) := (hb.1 0 (by omega)).trans (by rw [h0])
  have c1 : w.cell? ⟨N, 1, none⟩ = some (.string ua) := (hb.1 1 (by omega)).trans (by rw [h1])
  have c3 : w.cell? ⟨N, 3, none⟩ = some (.bool false) := (hb.1 3 (by omega)).trans (by rw [h3])
  have c7 : w.cell? ⟨N, 7, none⟩ = some (.int .i64 r) := (hb.1 7 (by omega)).trans (by rw [h7])
  have c32 : w.cell? ⟨N, 32, none⟩ = some (.slice ad 0 cap) := (hb.1 32 (by omega)).trans (by rw [h32])
  have hpq := peq_self ⟨#[]⟩ ⟨#[]⟩
  cases hr : (r == 1)
  all_goals
    go_enter Yba.func30, Yba.ntmps30
    go_wp2
    go_quiet ((go_at_call 39; exact Calls.quiet_of_same (opposite_any _ (by decide) _)))
    go_wp2_with fail
    refine (entry_none N 32 ad cap _ (by exact c32) (by exact hN)).mono ?_
    rintro e w2 ⟨rfl, hB2⟩
    have hb2 := (hb.drewN nq).below hB2 hN
    have d0 : w2.cell? ⟨N, 0, none⟩ = some (.string uk) := (hb2.1 0 (by omega)).trans (by rw [h0])
    have d1 : w2.cell? ⟨N, 1, none⟩ = some (.string ua) := (hb2.1 1 (by omega)).trans (by rw [h1])
    have d3 : w2.cell? ⟨N, 3, none⟩ = some (.bool false) := (hb2.1 3 (by omega)).trans (by rw [h3])
    have d7 : w2.cell? ⟨N, 7, none⟩ = some (.int .i64 r) := (hb2.1 7 (by omega)).trans (by rw [h7])
    have hN2 : N < w2.heap.size := Nat.lt_of_lt_of_le hN hB2.size
    have hB3 := (below_drewN (Below.refl w.heap.size w) nq).trans hB2
    clear hB2 c0 c1 c3 c7 c32 hb2
    go_wp2
    go_quiet (fail)
    go_wp2
    refine bodyPost_ret (v := .tuple #[]) (by simp [results, Yba.results30, go_sem]) rfl ⟨rfl, ?_⟩
    exact below_drewN (hB3.alloc hB3.size _) _
end Go.Proofs.Ybulkbpca
