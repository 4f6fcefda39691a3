import Derived.Test.YbulkbpcaNSend
import Derived.RangeFuncNested
import Derived.RangeFuncBound
import Derived.RangeFuncCalls
import Derived.RangeFuncLeaves
import Derived.Shelf.Abstract
import Derived.Shelf.RegionOpen
import Derived.OwnWalkIn
import Derived.TacticsInMore
import Derived.LoopNIn
import Derived.LoopIn
import Derived.BigRegionIn
namespace Go.Proofs.Ybulkbpca
open Go.ChangeShapes Go.WideShapes Go.ChangeAt Go.RowKit Go.Shelf
set_option linter.unusedVariables false
attribute [local go_sem] Oper.semAt_some
attribute [local go_sem ↓] eq_peer
attribute [local go_sem] guard_peer field_key

set_option maxRecDepth 100000 in
set_option maxHeartbeats 400000 in
/-- The iterator over the levels of both tables: one forward entry, no backward one. -/
theorem routes1_in (n : Nat) (hn : 1 ≤ n) (l C N n₀ : Nat) (sk sa : ByteArray) (ad : Option Addr) (cap : Nat) (J Jx : List Unit → World → Prop) (hC : C < n₀) (hN : N < n₀)
    (hY : ∀ pre x W, J pre W → pre.length < 1 → YieldAt Fence.wide (n - 1) Yba.prog l #[.agg #[.int .u8 0, .int .i64 0], .agg #[.string sk, .string sa]] W fun e W' =>
      (e = .returned (.bool true) ∧ J (pre ++ [x]) W' ∧ Below n₀ W W') ∨ (e = .returned (.bool false) ∧ Jx (pre ++ [x]) W'))
    (hJ : ∀ pre W o, J pre W → J pre (W.alloc o)) (hJd : ∀ pre W, J pre W → J pre W.drew)
    (W : World) (hn₀ : n₀ ≤ W.heap.size) (cC : W.cell? ⟨C, 0, none⟩ = some (.pointer (some ⟨N, 0, none⟩))) (c21 : W.cell? ⟨N, 21, none⟩ = some (.slice (some ⟨N, 66, none⟩) 1 18)) (c23 : W.cell? ⟨N, 23, none⟩ = some (.int .i64 1))
    (c66 : W.cell? ⟨N, 66, none⟩ = some (.string sk)) (c67 : W.cell? ⟨N, 67, none⟩ = some (.string sa)) (c68 : ∃ m, W.cell? ⟨N, 68, none⟩ = some (.string m)) (c32 : W.cell? ⟨N, 32, none⟩ = some (.slice ad 0 cap)) (c34 : W.cell? ⟨N, 34, none⟩ = some (.int .i64 0)) (h0 : J [] W) :
    CallsIn Fence.wide n Yba.prog 27 #[.func (.yield l) #[] #[], .pointer (some ⟨C, 0, none⟩)] W fun e W' => (∃ v, e = .returned v) ∧
      ((∃ ys, ys = [()] ∧ J ys W') ∨ (∃ pre, True ∧ Jx pre W')) := by
  obtain ⟨m, c68⟩ := c68
  refine callsIn_of_wp Yba.func27 rfl trivial ?_ rfl
  simp only [Yba.ntmps27, List.size_toArray, List.length_cons, List.length_nil, Nat.reduceAdd, Nat.reduceSub, Array.replicate_succ, Array.replicate_zero, List.push_toArray, List.append_toArray, List.nil_append, List.cons_append]
  have hN0 : N < W.heap.size := by omega
  have hC0 : C < W.heap.size := by omega
  have HY : Hid _ := hY
  have HJ : Hid _ := hJ
  have HD : Hid _ := hJd
  have H0 : Hid _ := h0
  clear hY hJ hJd h0
  gi_wp2
  refine wpIn_loop_rounds 3 ?_
  rw [roundsIn_succ]
  gi_wp2
  gi_region
  gi_wp2
  refine wpIn_loop_rounds 2 ?_
  rw [roundsIn_succ]
  obtain ⟨fn, tmps, assign, body, hy, hR⟩ := HY.out [] () (W.alloc (.cells #[.string sk, .string sa, .string m] 68)).drew (HD.out _ _ (HJ.out _ _ _ H0.out)) (by simp)
  have HR : Hid (type_of% hR) := hR
  clear hR
  gi_wp2
  refine HR.out.mono ?_
  rintro e W3 (⟨rfl, hJ3, hk3⟩ | ⟨rfl, hJx3⟩)
  · have hB3 : Below n₀ W W3 := (((Below.refl n₀ W).alloc hn₀ _).drew).trans hk3
    have dC := (hB3.cell (p := ⟨C, 0, none⟩) hC).trans cC
    have d32 := (hB3.cell (p := ⟨N, 32, none⟩) hN).trans c32
    have d34 := (hB3.cell (p := ⟨N, 34, none⟩) hN).trans c34
    have hJ4 : Hid (J [()] W3) := hJ3
    clear hJ3 hk3 HR hy
    gi_wp2
    rw [roundsIn_succ]
    gi_wp2
    rw [roundsIn_succ]
    gi_wp2
    gi_region
    gi_wp2
    refine wpIn_loop_rounds 1 ?_
    rw [roundsIn_succ]
    gi_wp2
    rw [roundsIn_succ]
    gi_wp2
    go_end0
    exact ⟨⟨_, rfl⟩, .inl ⟨_, rfl, HD.out _ _ hJ4.out⟩⟩
  · gi_wp2
    refine bodyPost_ret (results_none rfl _ _ _) rfl ?_
    exact ⟨⟨_, rfl⟩, .inr ⟨_, trivial, hJx3⟩⟩

theorem grownBy_drew (W : World) : W.grownBy W.drew none := ⟨rfl, rfl, rfl, Nat.le_refl _, fun _ _ _ => rfl⟩
theorem grownBy_alloc' (W : World) (o : Obj) : W.grownBy (W.alloc o) none := ⟨rfl, rfl, rfl, by simp, fun k hk _ => Below.heap_alloc W o k hk⟩

/-- 'routes()' hands back an iterator that gives the one forward entry. -/
theorem routes_stops (n : Nat) (hn : 1 ≤ n) (C N n₀ : Nat) (sk sa : ByteArray) (ad : Option Addr) (cap : Nat) (w : World) (hC : C < n₀) (hN : N < n₀) (hn₀ : n₀ ≤ w.heap.size)
    (cC : w.cell? ⟨C, 0, none⟩ = some (.pointer (some ⟨N, 0, none⟩))) (c21 : w.cell? ⟨N, 21, none⟩ = some (.slice (some ⟨N, 66, none⟩) 1 18)) (c23 : w.cell? ⟨N, 23, none⟩ = some (.int .i64 1))
    (c66 : w.cell? ⟨N, 66, none⟩ = some (.string sk)) (c67 : w.cell? ⟨N, 67, none⟩ = some (.string sa)) (c68 : ∃ m, w.cell? ⟨N, 68, none⟩ = some (.string m)) (c32 : w.cell? ⟨N, 32, none⟩ = some (.slice ad 0 cap)) (c34 : w.cell? ⟨N, 34, none⟩ = some (.int .i64 0)) :
    SeqStopsK Fence.wide n Yba.prog 27 #[.pointer (some ⟨C, 0, none⟩)] (fun _ : Unit => #[Value.agg #[.int .u8 0, .int .i64 0], Value.agg #[.string sk, .string sa]]) (Below n₀) (fun ys => ys = [()]) (fun _ => True) 1 w := fun l J Jx W hW hJ hJx hY h0 => by
  have hc : ∀ (b o : Nat), b < n₀ → W.cell? ⟨b, o, none⟩ = w.cell? ⟨b, o, none⟩ := fun b o hb => hW.cell (p := ⟨b, o, none⟩) (Nat.lt_of_lt_of_le hb hn₀)
  obtain ⟨m, c68⟩ := c68
  exact routes1_in n hn l C N n₀ sk sa ad cap J Jx hC hN hY (fun pre W o h => hJ pre W _ none h (grownBy_alloc' W o) (fun r e => by cases e)) (fun pre W h => hJ pre W _ none h (grownBy_drew W) (fun r e => by cases e)) W (Nat.le_trans hn₀ hW.size)
    ((hc C 0 hC).trans cC) ((hc N 21 hN).trans c21) ((hc N 23 hN).trans c23) ((hc N 66 hN).trans c66) ((hc N 67 hN).trans c67) ⟨m, (hc N 68 hN).trans c68⟩ ((hc N 32 hN).trans c32) ((hc N 34 hN).trans c34) h0

set_option maxRecDepth 100000 in
set_option maxHeartbeats 1000000 in
theorem routes_in (n N : Nat) (w : World) :
    CallsIn Fence.wide n Yba.prog 22 #[.pointer (some ⟨N, 0, none⟩)] w fun e w' => e = .returned (.func (.func 27) #[] #[.pointer (some ⟨w.heap.size, 0, none⟩)]) ∧ w' = w.alloc (.cells #[.pointer (some ⟨N, 0, none⟩)] 31) := by
  refine callsIn_of_wp Yba.func22 rfl trivial ?_ rfl
  simp only [Yba.ntmps22, List.size_toArray, List.length_cons, List.length_nil, Nat.reduceAdd, Nat.reduceSub, Array.replicate_succ, Array.replicate_zero, List.push_toArray, List.append_toArray, List.nil_append, List.cons_append]
  gi_wp2
  go_ret
  exact ⟨rfl, rfl⟩
end Go.Proofs.Ybulkbpca
