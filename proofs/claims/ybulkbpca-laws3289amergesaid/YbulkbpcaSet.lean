import Derived.Test.YbulkbpcaTag
import Derived.Deep.RegionWith
import Derived.Deep.RegionHeld3
import Derived.Deep.DrawnRows
namespace Go.Proofs.Ybulkbpca
open Go.ChangeShapes Go.WideShapes Go.ChangeAt Go.RowKit
set_option linter.unusedVariables false
attribute [local go_sem ↓] Go.wp_at_zero Go.wp_at_succ

/-- The two cells of a peer. -/
def peerC (k a : ByteArray) : Nat → Value := fun j => if j = 0 then .string k else .string a

theorem peer_fresh (w : World) (k a : ByteArray) (t : TypeId) : Blk (w.alloc (.cells #[.string k, .string a] t)) w.heap.size 2 (peerC k a) :=
  (Blk.fresh w #[.string k, .string a] t).congr fun j hj => by
    have hj2 : j < 2 := by simpa using hj
    rcases (show j = 0 ∨ j = 1 from by omega) with rfl | rfl <;> rfl

/-- What 'table.set(0, p)' and 'table.link(p)' leave of the node's block. -/
def SetPost (N : Nat) (c : Nat → Value) (k a : ByteArray) (w w' : World) : Prop :=
  ∃ c' : Nat → Value, Blk w' N 258 c' ∧ Kp (fun j => j = N) w w' ∧ (∀ j, j ∉ [21, 22, 23, 24, 28, 29, 30, 66, 67, 68, 174] → c' j = c j) ∧
    c' 21 = .slice (some ⟨N, 66, none⟩) 1 18 ∧ c' 22 = .slice (some ⟨N, 174, none⟩) 1 18 ∧ c' 23 = .int .i64 1 ∧ c' 66 = .string k ∧ c' 67 = .string a ∧ ∃ o, c' 28 = .int .u64 o ∧ (c' 68 = c 68 ∨ c' 68 = .string ⟨#[]⟩)

theorem set2_facts {N : Nat} {c : Nat → Value} {k a : ByteArray} {w w2 : World} {t o : Int} (hb2 : Blk w2 N 258 (upd (upd (upd (upd c 66 (.string k)) 67 (.string a)) 68 (.string ⟨#[]⟩)) 21 (.slice (some ⟨N, 66, none⟩) 1 18)))
    (hK : Kp (fun j => j = N) w w2) (hN2 : N < w2.heap.size) (h28 : c 28 = .int .u64 o) :
    SetPost N c k a w ((((w2.setCell ⟨N, 174, none⟩ (.int .u32 t)).setCell ⟨N, 22, none⟩ (.slice (some ⟨N, 174, none⟩) 1 18)).setCell ⟨N, 23, none⟩ (.int .i64 1)).alloc (.cells #[.int .u32 t] 74)) := by
  refine ⟨_, (((hb2.set 174 (by omega) _).set 22 (by omega) _).set 23 (by omega) _).alloc (by simpa using hN2) _, ?_, ?_, rfl, rfl, rfl, rfl, rfl, o, h28, .inr rfl⟩
  · refine Kp.alloc (Kp.setCell (Kp.setCell (Kp.setCell hK ?_ _) ?_ _) ?_ _) _ <;> (intro _; rfl)
  · intro j hj
    simp only [List.mem_cons, List.not_mem_nil, or_false, not_or] at hj
    simp [upd, hj]

theorem set1_facts (N : Nat) (c : Nat → Value) (k a : ByteArray) (w : World) (hb : Blk w N 258 c) (hN : N < w.heap.size) :
    Blk ((((((w.setCell ⟨N, 66, none⟩ (.string k)).setCell ⟨N, 67, none⟩ (.string a)).setCell ⟨N, 68, none⟩ (.string ⟨#[]⟩)).setCell ⟨N, 21, none⟩ (.slice (some ⟨N, 66, none⟩) 1 18)).alloc (.cells #[.string k, .string a] 25)).alloc (.cells #[.string k, .string a, .string ⟨#[]⟩] 68)).drew N 258 (upd (upd (upd (upd c 66 (.string k)) 67 (.string a)) 68 (.string ⟨#[]⟩)) 21 (.slice (some ⟨N, 66, none⟩) 1 18)) ∧
    Kp (fun j => j = N) w ((((((w.setCell ⟨N, 66, none⟩ (.string k)).setCell ⟨N, 67, none⟩ (.string a)).setCell ⟨N, 68, none⟩ (.string ⟨#[]⟩)).setCell ⟨N, 21, none⟩ (.slice (some ⟨N, 66, none⟩) 1 18)).alloc (.cells #[.string k, .string a] 25)).alloc (.cells #[.string k, .string a, .string ⟨#[]⟩] 68)).drew ∧
    Blk ((((((w.setCell ⟨N, 66, none⟩ (.string k)).setCell ⟨N, 67, none⟩ (.string a)).setCell ⟨N, 68, none⟩ (.string ⟨#[]⟩)).setCell ⟨N, 21, none⟩ (.slice (some ⟨N, 66, none⟩) 1 18)).alloc (.cells #[.string k, .string a] 25)).alloc (.cells #[.string k, .string a, .string ⟨#[]⟩] 68)).drew w.heap.size 2 (peerC k a) ∧ w.heap.size + 2 ≤ ((((((w.setCell ⟨N, 66, none⟩ (.string k)).setCell ⟨N, 67, none⟩ (.string a)).setCell ⟨N, 68, none⟩ (.string ⟨#[]⟩)).setCell ⟨N, 21, none⟩ (.slice (some ⟨N, 66, none⟩) 1 18)).alloc (.cells #[.string k, .string a] 25)).alloc (.cells #[.string k, .string a, .string ⟨#[]⟩] 68)).drew.heap.size := by
  refine ⟨((((((hb.set 66 (by omega) _).set 67 (by omega) _).set 68 (by omega) _).set 21 (by omega) _).alloc (by simpa using hN) _).alloc (by simp; omega) _).drew, ?_, ?_, by simp⟩
  · refine Kp.drew (Kp.alloc (Kp.alloc (Kp.setCell (Kp.setCell (Kp.setCell (Kp.setCell (Kp.refl _ w) ?_ _) ?_ _) ?_ _) ?_ _) _) _) <;> (intro _; rfl)
  · have h := peer_fresh ((((w.setCell ⟨N, 66, none⟩ (.string k)).setCell ⟨N, 67, none⟩ (.string a)).setCell ⟨N, 68, none⟩ (.string ⟨#[]⟩)).setCell ⟨N, 21, none⟩ (.slice (some ⟨N, 66, none⟩) 1 18)) k a 25
    simp only [World.size_setCell] at h
    exact (h.alloc (by simp) _).drew

set_option maxRecDepth 100000 in
set_option maxHeartbeats 1000000 in
/-- 'table.set(0, p)' at the forward table, which has no entry. -/
theorem set_empty (N : Nat) (c : Nat → Value) (k a : ByteArray) (hk : k.size ≤ maxLen) (w : World) (hb : Blk w N 258 c) (hN : N < w.heap.size)
    (h21 : c 21 = .slice (some ⟨N, 66, none⟩) 0 18) (h22 : c 22 = .slice (some ⟨N, 174, none⟩) 0 18) (h23 : c 23 = .int .i64 0) (o : Int) (h28 : c 28 = .int .u64 o) :
    Calls Yba.prog 8 #[.pointer (some ⟨N, 21, none⟩), .int .i64 0, .agg #[.string k, .string a]] w fun e w' => e = .returned (.tuple #[]) ∧ SetPost N c k a w w' := by
  have c21 := hb.1 21 (by omega)
  have c22 := hb.1 22 (by omega)
  have c23 := hb.1 23 (by omega)
  rw [h21] at c21
  rw [h22] at c22
  rw [h23] at c23
  have f21 := hb.2 21
  have f22 := hb.2 22
  have f23 := hb.2 23
  have c66 := hb.1 66 (by omega)
  have c67 := hb.1 67 (by omega)
  have c68 := hb.1 68 (by omega)
  have f66 := hb.2 66
  have f67 := hb.2 67
  have f68 := hb.2 68
  go_enter Yba.func8, Yba.ntmps8
  go_wp2_with fail
  go_region
  have h1 := set1_facts N c k a w hb hN
  generalize World.drew _ = w1 at h1 ⊢
  clear c21 c22 c23 f21 f22 f23 c66 c67 c68 f66 f67 f68
  obtain ⟨hb1, hK1, hp1, hs1⟩ := h1
  have hP1 : w.heap.size < w1.heap.size := by omega
  have hN1 : N < w1.heap.size := by omega
  have dk : w1.cell? ⟨w.heap.size, 0, none⟩ = some (.string k) := hp1.1 0 (by omega)
  have d22 : w1.cell? ⟨N, 22, none⟩ = some (.slice (some ⟨N, 174, none⟩) 0 18) := (hb1.1 22 (by omega)).trans (by simp [upd, h22])
  go_wp2_with fail
  go_region_with (go_at_call 15; refine (keyTag_any k hk _).mono ?_; rintro e w2 ⟨t, rfl, hB2⟩; have hb2 := hb1.drew.below hB2 hN1; have e22 : w2.cell? ⟨N, 22, none⟩ = some (.slice (some ⟨N, 174, none⟩) 0 18) := (hb2.1 22 (by omega)).trans (by simp [upd, h22]); have f22 := hb2.2 22; have e174 := hb2.1 174 (by omega); have f174 := hb2.2 174; have e23 : w2.cell? ⟨N, 23, none⟩ = some (.int .i64 0) := (hb2.1 23 (by omega)).trans (by simp [upd, h23]); have f23 := hb2.2 23; have hN2 : N < w2.heap.size := Nat.lt_of_lt_of_le hN1 hB2.size)
  all_goals go_wp2
  all_goals go_end0
  all_goals exact ⟨rfl, set2_facts hb2 (hK1.drew.then hB2) hN2 h28⟩
end Go.Proofs.Ybulkbpca
