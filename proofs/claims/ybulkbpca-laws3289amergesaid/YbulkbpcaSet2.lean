import Derived.Test.YbulkbpcaSet
import Derived.Test.YbulkbpcaEq
namespace Go.Proofs.Ybulkbpca
open Go.ChangeShapes Go.WideShapes Go.ChangeAt Go.RowKit
set_option linter.unusedVariables false
attribute [local go_sem ↓] Go.wp_at_zero Go.wp_at_succ
attribute [local go_sem ↓] eq_peer
attribute [local go_sem] guard_peer

set_option maxRecDepth 100000 in
set_option maxHeartbeats 1000000 in
/-- 'table.set(0, p)' at the forward table, whose entry is p already. -/
theorem set_same (N : Nat) (c : Nat → Value) (k a : ByteArray) (w : World) (hb : Blk w N 258 c) (hN : N < w.heap.size)
    (h21 : c 21 = .slice (some ⟨N, 66, none⟩) 1 18) (h22 : c 22 = .slice (some ⟨N, 174, none⟩) 1 18) (h23 : c 23 = .int .i64 1) (o : Int) (h28 : c 28 = .int .u64 o)
    (h66 : c 66 = .string k) (h67 : c 67 = .string a) :
    Calls Yba.prog 8 #[.pointer (some ⟨N, 21, none⟩), .int .i64 0, .agg #[.string k, .string a]] w fun e w' => e = .returned (.tuple #[]) ∧ SetPost N c k a w w' := by
  have c21 := hb.1 21 (by omega)
  have c23 := hb.1 23 (by omega)
  have f23 := hb.2 23
  have c66 := hb.1 66 (by omega)
  have c67 := hb.1 67 (by omega)
  rw [h21] at c21
  rw [h23] at c23
  rw [h66] at c66
  rw [h67] at c67
  have hpq := peq_self k a
  have hfin : SetPost N c k a w ((w.setCell ⟨N, 23, none⟩ (.int .i64 1)).alloc (.cells #[.string k, .string a] 25)).drew := by
    refine ⟨_, ((hb.set 23 (by omega) (.int .i64 1)).alloc (by simpa using hN) _).drew, ?_, ?_, h21, h22, rfl, h66, h67, o, h28, .inl rfl⟩
    · refine Kp.drew (Kp.alloc (Kp.setCell (Kp.refl _ w) ?_ _) _)
      intro _; rfl
    · intro j hj
      simp only [List.mem_cons, List.not_mem_nil, or_false, not_or] at hj
      simp [upd, hj]
  have HF : Hid (SetPost N c k a w ((w.setCell ⟨N, 23, none⟩ (.int .i64 1)).alloc (.cells #[.string k, .string a] 25)).drew) := hfin
  clear hfin
  go_enter Yba.func8, Yba.ntmps8
  go_wp2
  go_region
  go_wp2
  go_end0
  exact ⟨rfl, HF.out⟩

theorem set3_facts {N : Nat} {c : Nat → Value} {k a : ByteArray} {w w1 : World} {o : Int} (hb : Blk w N 258 c) (hN : N < w.heap.size)
    (hw : w1 = (((((w.setCell ⟨N, 28, none⟩ (.int .u64 o)).setCell ⟨N, 66, none⟩ (.string k)).setCell ⟨N, 67, none⟩ (.string a)).setCell ⟨N, 68, none⟩ (.string ⟨#[]⟩)).alloc (.cells #[.string k, .string a] 25)).drew.drew.drew) :
    Blk w1 N 258 (upd (upd (upd (upd c 28 (.int .u64 o)) 66 (.string k)) 67 (.string a)) 68 (.string ⟨#[]⟩)) ∧ Kp (fun j => j = N) w w1 ∧ Blk w1 w.heap.size 2 (peerC k a) ∧ w.heap.size + 1 ≤ w1.heap.size := by
  subst hw
  refine ⟨(((((hb.set 28 (by omega) _).set 66 (by omega) _).set 67 (by omega) _).set 68 (by omega) _).alloc (by simpa using hN) _).drew.drew.drew, ?_, ?_, by simp⟩
  · refine Kp.drew (Kp.drew (Kp.drew (Kp.alloc (Kp.setCell (Kp.setCell (Kp.setCell (Kp.setCell (Kp.refl _ w) ?_ _) ?_ _) ?_ _) ?_ _) _))) <;> (intro _; rfl)
  · have h := peer_fresh ((((w.setCell ⟨N, 28, none⟩ (.int .u64 o)).setCell ⟨N, 66, none⟩ (.string k)).setCell ⟨N, 67, none⟩ (.string a)).setCell ⟨N, 68, none⟩ (.string ⟨#[]⟩)) k a 25
    simp only [World.size_setCell] at h
    exact h.drew.drew.drew

theorem set4_facts {N : Nat} {c : Nat → Value} {k a : ByteArray} {w w2 : World} {t o : Int} (hb2 : Blk w2 N 258 (upd (upd (upd (upd c 28 (.int .u64 o)) 66 (.string k)) 67 (.string a)) 68 (.string ⟨#[]⟩)))
    (hK : Kp (fun j => j = N) w w2) (h21 : c 21 = .slice (some ⟨N, 66, none⟩) 1 18) (h22 : c 22 = .slice (some ⟨N, 174, none⟩) 1 18) :
    SetPost N c k a w ((((w2.setCell ⟨N, 174, none⟩ (.int .u32 t)).setCell ⟨N, 29, none⟩ (.int .u64 0)).setCell ⟨N, 30, none⟩ (.bool false)).setCell ⟨N, 23, none⟩ (.int .i64 1)) := by
  refine ⟨_, (((hb2.set 174 (by omega) _).set 29 (by omega) _).set 30 (by omega) _).set 23 (by omega) _, ?_, ?_, h21, h22, rfl, rfl, rfl, o, rfl, .inr rfl⟩
  · refine Kp.setCell (Kp.setCell (Kp.setCell (Kp.setCell hK ?_ _) ?_ _) ?_ _) ?_ _ <;> (intro _; rfl)
  · intro j hj
    simp only [List.mem_cons, List.not_mem_nil, or_false, not_or] at hj
    simp [upd, hj]

set_option maxRecDepth 100000 in
set_option maxHeartbeats 1000000 in
/-- 'table.set(0, p)' at the forward table, whose entry is another peer. -/
theorem set_other (N : Nat) (c : Nat → Value) (sk sa k a : ByteArray) (hk : k.size ≤ maxLen) (w : World) (hb : Blk w N 258 c) (hN : N < w.heap.size)
    (h21 : c 21 = .slice (some ⟨N, 66, none⟩) 1 18) (h22 : c 22 = .slice (some ⟨N, 174, none⟩) 1 18) (h23 : c 23 = .int .i64 1) (o : Int) (h28 : c 28 = .int .u64 o)
    (h66 : c 66 = .string sk) (h67 : c 67 = .string sa) (hpq : peq sk sa k a = false) :
    Calls Yba.prog 8 #[.pointer (some ⟨N, 21, none⟩), .int .i64 0, .agg #[.string k, .string a]] w fun e w' => e = .returned (.tuple #[]) ∧ SetPost N c k a w w' := by
  have c21 := hb.1 21 (by omega)
  have c23 := hb.1 23 (by omega)
  have f23 := hb.2 23
  have c28 := hb.1 28 (by omega)
  have f28 := hb.2 28
  have c66 := hb.1 66 (by omega)
  have c67 := hb.1 67 (by omega)
  have c68 := hb.1 68 (by omega)
  have f66 := hb.2 66
  have f67 := hb.2 67
  have f68 := hb.2 68
  rw [h21] at c21
  rw [h23] at c23
  rw [h28] at c28
  rw [h66] at c66
  rw [h67] at c67
  go_enter Yba.func8, Yba.ntmps8
  go_wp2
  go_region
  go_wp2
  go_region
  go_wp2
  go_region
  have h1 := set3_facts (o := bits .andNot .u64 o 1) (k := k) (a := a) hb hN rfl
  generalize World.drew (World.drew (World.drew _)) = w1 at h1 ⊢
  clear c21 c23 f23 c28 f28 c66 c67 c68 f66 f67 f68
  obtain ⟨hb1, hK1, hp1, hs1⟩ := h1
  have hP1 : w.heap.size < w1.heap.size := by omega
  have hN1 : N < w1.heap.size := by omega
  have dk : w1.cell? ⟨w.heap.size, 0, none⟩ = some (.string k) := hp1.1 0 (by omega)
  have d22 : w1.cell? ⟨N, 22, none⟩ = some (.slice (some ⟨N, 174, none⟩) 1 18) := (hb1.1 22 (by omega)).trans (by simp [upd, h22])
  go_wp2_with fail
  go_region_with (go_at_call 15; refine (keyTag_any k hk _).mono ?_; rintro e w2 ⟨t, rfl, hB2⟩; have hb2 := hb1.drew.below hB2 hN1; have e22 : w2.cell? ⟨N, 22, none⟩ = some (.slice (some ⟨N, 174, none⟩) 1 18) := (hb2.1 22 (by omega)).trans (by simp [upd, h22]); have e174 := hb2.1 174 (by omega); have f174 := hb2.2 174; have e23 : w2.cell? ⟨N, 23, none⟩ = some (.int .i64 1) := (hb2.1 23 (by omega)).trans (by simp [upd, h23]); have f23 := hb2.2 23; have e29 := hb2.1 29 (by omega); have f29 := hb2.2 29; have e30 := hb2.1 30 (by omega); have f30 := hb2.2 30; have hN2 : N < w2.heap.size := Nat.lt_of_lt_of_le hN1 hB2.size)
  all_goals go_wp2
  all_goals go_end0
  all_goals exact ⟨rfl, set4_facts hb2 (hK1.drew.then hB2) h21 h22⟩

/-- 'table.set(0, p)' at the forward table, which has one entry. -/
theorem set_full (N : Nat) (c : Nat → Value) (sk sa k a : ByteArray) (hk : k.size ≤ maxLen) (w : World) (hb : Blk w N 258 c) (hN : N < w.heap.size)
    (h21 : c 21 = .slice (some ⟨N, 66, none⟩) 1 18) (h22 : c 22 = .slice (some ⟨N, 174, none⟩) 1 18) (h23 : c 23 = .int .i64 1) (o : Int) (h28 : c 28 = .int .u64 o)
    (h66 : c 66 = .string sk) (h67 : c 67 = .string sa) :
    Calls Yba.prog 8 #[.pointer (some ⟨N, 21, none⟩), .int .i64 0, .agg #[.string k, .string a]] w fun e w' => e = .returned (.tuple #[]) ∧ SetPost N c k a w w' := by
  cases hpq : peq sk sa k a with
  | true =>
    obtain ⟨rfl, rfl⟩ := (peq_iff _ _ _ _).1 hpq
    exact set_same N c sk sa w hb hN h21 h22 h23 o h28 h66 h67
  | false => exact set_other N c sk sa k a hk w hb hN h21 h22 h23 o h28 h66 h67 hpq

/-- What holds of the node's block ahead of a link: the forward table has no entry, or one. -/
def LinkPre (N : Nat) (c : Nat → Value) : Prop :=
  (c 21 = .slice (some ⟨N, 66, none⟩) 0 18 ∧ c 22 = .slice (some ⟨N, 174, none⟩) 0 18 ∧ c 23 = .int .i64 0 ∧ ∃ o, c 28 = .int .u64 o) ∨
  (c 21 = .slice (some ⟨N, 66, none⟩) 1 18 ∧ c 22 = .slice (some ⟨N, 174, none⟩) 1 18 ∧ c 23 = .int .i64 1 ∧ (∃ o, c 28 = .int .u64 o) ∧ ∃ sk sa, c 66 = .string sk ∧ c 67 = .string sa)

theorem set_any (N : Nat) (c : Nat → Value) (k a : ByteArray) (hk : k.size ≤ maxLen) (w : World) (hb : Blk w N 258 c) (hN : N < w.heap.size) (hp : LinkPre N c) :
    Calls Yba.prog 8 #[.pointer (some ⟨N, 21, none⟩), .int .i64 0, .agg #[.string k, .string a]] w fun e w' => e = .returned (.tuple #[]) ∧ SetPost N c k a w w' := by
  rcases hp with ⟨h1, h2, h3, o, h4⟩ | ⟨h1, h2, h3, ⟨o, h4⟩, sk, sa, h5, h6⟩
  · exact set_empty N c k a hk w hb hN h1 h2 h3 o h4
  · exact set_full N c sk sa k a hk w hb hN h1 h2 h3 o h4 h5 h6

set_option maxRecDepth 100000 in
set_option maxHeartbeats 1000000 in
/-- 'table.link(p)' at the forward table. -/
theorem tlink_any (N : Nat) (c : Nat → Value) (k a : ByteArray) (hk : k.size ≤ maxLen) (w : World) (hb : Blk w N 258 c) (hN : N < w.heap.size) (hp : LinkPre N c) :
    Calls Yba.prog 5 #[.pointer (some ⟨N, 21, none⟩), .agg #[.string k, .string a]] w fun e w' => e = .returned (.tuple #[]) ∧ SetPost N c k a w w' := by
  have hb1 := hb.alloc hN (.cells #[.string k, .string a] 25)
  have hN1 : N < (w.alloc (.cells #[.string k, .string a] 25)).heap.size := by simp; omega
  go_enter Yba.func5, Yba.ntmps5
  go_wp2_with fail
  refine (set_any N c k a hk _ hb1 hN1 hp).mono ?_
  rintro e w2 ⟨rfl, c', hb2, hK2, hs, g21, g22, g23, g66, g67, o, g28, g68⟩
  have hK : Kp (fun j => j = N) w w2 := ((Kp.refl _ w).alloc _).trans hK2
  have e24 := hb2.1 24 (by omega)
  have f24 := hb2.2 24
  have hfin : SetPost N c k a w (w2.setCell ⟨N, 24, none⟩ (.int .i64 0)) := by
    refine ⟨_, hb2.set 24 (by omega) _, hK.setCell (fun _ => rfl) _, ?_, g21, g22, g23, g66, g67, o, g28, g68⟩
    intro j hj
    have hj2 := hj
    simp only [List.mem_cons, List.not_mem_nil, or_false, not_or] at hj2
    simp only [upd, if_neg hj2.2.2.2.1]
    exact hs j hj
  have HF : Hid (SetPost N c k a w (w2.setCell ⟨N, 24, none⟩ (.int .i64 0))) := hfin
  clear hfin hs g21 g22 g23 g66 g67 g28 g68 hK hK2 hb1 hN1
  go_wp2
  go_end0
  exact ⟨rfl, HF.out⟩
end Go.Proofs.Ybulkbpca
