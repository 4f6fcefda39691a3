import Derived.Test.YbulkbpcaArc
namespace Go.Proofs.Ybulkbpca
open Go.ChangeShapes Go.WideShapes Go.ChangeAt Go.RowKit
set_option linter.unusedVariables false
attribute [local go_sem ↓] Go.wp_at_zero Go.wp_at_succ
attribute [local go_sem ↓] eq_peer
attribute [local go_sem] guard_peer field_key

set_option maxRecDepth 100000 in
set_option maxHeartbeats 1000000 in
/-- 'entry(0)' of a table without entries. -/
theorem entry_none (N o : Nat) (ad : Option Addr) (cap : Nat) (w : World) (c : w.cell? ⟨N, o, none⟩ = some (.slice ad 0 cap)) (hN : N < w.heap.size) :
    Calls Yba.prog 20 #[.pointer (some ⟨N, o, none⟩), .int .i64 0] w fun e w' => e = .returned (.agg #[.string ⟨#[]⟩, .string ⟨#[]⟩]) ∧ Below w.heap.size w w' := by
  go_enter Yba.func20, Yba.ntmps20
  go_wp2
  refine bodyPost_ret (v := .agg #[.string ⟨#[]⟩, .string ⟨#[]⟩]) (by simp [results, Yba.results20, go_sem]) rfl ⟨rfl, ?_⟩
  exact (Below.refl _ _).alloc (Nat.le_refl _) _

set_option maxRecDepth 100000 in
set_option maxHeartbeats 1000000 in
/-- 'entry(0)' of the forward table, which has one. -/
theorem entry_one (N : Nat) (sk sa : ByteArray) (w : World) (c21 : w.cell? ⟨N, 21, none⟩ = some (.slice (some ⟨N, 66, none⟩) 1 18)) (c66 : w.cell? ⟨N, 66, none⟩ = some (.string sk)) (c67 : w.cell? ⟨N, 67, none⟩ = some (.string sa)) (hN : N < w.heap.size) :
    Calls Yba.prog 20 #[.pointer (some ⟨N, 21, none⟩), .int .i64 0] w fun e w' => e = .returned (.agg #[.string sk, .string sa]) ∧ Below w.heap.size w w' := by
  go_enter Yba.func20, Yba.ntmps20
  go_wp2
  refine bodyPost_ret (v := .agg #[.string sk, .string sa]) (by simp [results, Yba.results20, go_sem]) rfl ⟨rfl, ?_⟩
  exact (Below.refl _ _).alloc (Nat.le_refl _) _

set_option maxRecDepth 100000 in
set_option maxHeartbeats 1000000 in
/-- 'nearer(Forward, a, b)': some bool. -/
theorem nearer_any (N : Nat) (uk ak aa bk ba : ByteArray) (w : World) (c0 : w.cell? ⟨N, 0, none⟩ = some (.string uk)) (hN : N < w.heap.size) :
    Calls Yba.prog 19 #[.pointer (some ⟨N, 0, none⟩), .int .u8 0, .agg #[.string ak, .string aa], .agg #[.string bk, .string ba]] w fun e w' => (∃ b : Bool, e = .returned (.bool b)) ∧ Below w.heap.size w w' := by
  have hB : Below w.heap.size w ((w.alloc (.cells #[.string ak, .string aa] 25)).alloc (.cells #[.string bk, .string ba] 25)) := ((Below.refl _ _).alloc (Nat.le_refl _) _).alloc (by simp) _
  cases h1 : (ak.toList == uk.toList)
  all_goals
    go_enter Yba.func19, Yba.ntmps19
    go_wp2_with fail
    go_quiet ((go_at_call 17; exact Calls.quiet_of_same (onArc_any _ _ _ _)))
    go_wp2
    go_ret
    exact ⟨⟨_, rfl⟩, below_drewN hB _⟩
end Go.Proofs.Ybulkbpca
