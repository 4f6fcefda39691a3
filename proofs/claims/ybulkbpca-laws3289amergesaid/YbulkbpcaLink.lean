import Derived.Test.YbulkbpcaRelist
namespace Go.Proofs.Ybulkbpca
open Go.ChangeShapes Go.WideShapes Go.ChangeAt Go.RowKit
set_option linter.unusedVariables false
attribute [local go_sem ↓] Go.wp_at_zero Go.wp_at_succ
attribute [local go_sem ↓] eq_peer
attribute [local go_sem] guard_peer field_key

/-- What is known of the node's block while it is linked. -/
structure NodeIs (c : Nat → Value) (uk ua : ByteArray) (r : Int) : Prop where
  h0 : c 0 = .string uk
  h1 : c 1 = .string ua
  h3 : c 3 = .bool false
  h7 : c 7 = .int .i64 r
  hr : 1 ≤ r
  hr5 : r ≤ 5
  h11 : c 11 = .pointer none
  h12 : c 12 = .int .u64 0
  h32 : ∃ ad cap, c 32 = .slice ad 0 cap
  h43 : c 43 = .string ⟨#[]⟩
  h44 : c 44 = .string ⟨#[]⟩
  h54 : c 54 = .map none
  h55 : c 55 = .map none
  h56 : c 56 = .map none
  h57 : c 57 = .int .i64 0
  h58 : c 58 = .map none

set_option maxRecDepth 100000 in
set_option maxHeartbeats 1000000 in
/-- 'relink(Forward, p)' at a node without lists. -/
theorem relink_one (N : Nat) (c : Nat → Value) (k a uk ua : ByteArray) (r : Int) (w : World) (hb : Blk w N 258 c) (hN : N < w.heap.size) (hc : NodeIs c uk ua r) (hpq : peq k a uk ua = false) :
    Calls Yba.prog 21 #[.pointer (some ⟨N, 0, none⟩), .int .u8 0, .agg #[.string k, .string a]] w fun e w' => e = .returned (.tuple #[]) ∧ RelistPost N c k a r w w' := by
  obtain ⟨ad, cap, h32⟩ := hc.h32
  have c11 : w.cell? ⟨N, 11, none⟩ = some (.pointer none) := (hb.1 11 (by omega)).trans (by rw [hc.h11])
  have hp := peer_fresh (w.alloc (.cells #[.string k, .string a] 25)) k a 25
  rw [World.size_alloc] at hp
  have hb2 := (hb.alloc hN (.cells #[.string k, .string a] 25)).alloc (by simp; omega) (.cells #[.string k, .string a] 25)
  go_enter Yba.func21, Yba.ntmps21
  go_wp2_with fail
  refine (in_nil 0 _).mono ?_
  rintro e w' ⟨rfl, hw'⟩
  subst hw'
  go_wp2_with fail
  refine wp_loop_rounds 1 ?_
  rw [rounds_succ]
  go_wp2_with fail
  refine (relist_one N (w.heap.size + 1) c k a uk ua r 0 ad cap _ hb2 (by simp; omega) (by simp) (by omega) hp hc.h0 hc.h1 hc.h3 hc.h7 hc.hr hc.hr5 hc.h11 hc.h12 h32 hc.h54 hc.h55 hc.h56 hc.h57 hc.h58 hpq).mono ?_
  rintro e w2 ⟨rfl, L, g, cap', q1, q2, q3, q4, q5, q6, q7, q8, q9⟩
  have HF : Hid (RelistPost N c k a r w w2) := ⟨L, g, cap', q1, q2, q3, (((Kp.refl _ w).alloc _).alloc _).trans q4, by simp at q5; omega, by simp at q6; omega, q7, q8, q9⟩
  clear q1 q2 q3 q4 q5 q6 q7 q8 q9
  go_wp2
  go_end0
  exact ⟨rfl, HF.out⟩

/-- What 'link(Forward, p)' leaves. -/
def LinkPost (N : Nat) (c : Nat → Value) (k a : ByteArray) (r : Int) (w w' : World) : Prop :=
  ∃ (c' : Nat → Value) (L g cap : Nat), Blk w' N 258 c' ∧ (∀ j, j ∉ [5, 6, 11, 12, 21, 22, 23, 24, 28, 29, 30, 57, 66, 67, 68, 174] → c' j = c j) ∧
    c' 5 = .bool true ∧ c' 11 = .pointer (some ⟨L, 0, none⟩) ∧ c' 12 = .int .u64 1 ∧ c' 21 = .slice (some ⟨N, 66, none⟩) 1 18 ∧ c' 57 = .int .i64 (minI 2 r) ∧ c' 66 = .string k ∧ c' 67 = .string a ∧
    Blk w' L 2 (listsC g cap) ∧ Blk w' g 2 (peerC k a) ∧ Kp (fun j => j = N) w w' ∧ w.heap.size ≤ L ∧ w.heap.size ≤ g ∧ L ≠ N ∧ g ≠ N ∧ g ≠ L

theorem NodeIs.of_same {c c2 : Nat → Value} {uk ua : ByteArray} {r : Int} (h : NodeIs c uk ua r) (he : ∀ j, j ∉ [5, 6, 21, 22, 23, 24, 28, 29, 30, 66, 67, 68, 174] → c2 j = c j) : NodeIs c2 uk ua r := by
  have e : ∀ j, j ∉ [5, 6, 21, 22, 23, 24, 28, 29, 30, 66, 67, 68, 174] → c2 j = c j := he
  obtain ⟨ad, cap, h32⟩ := h.h32
  exact ⟨(e 0 (by decide)).trans h.h0, (e 1 (by decide)).trans h.h1, (e 3 (by decide)).trans h.h3, (e 7 (by decide)).trans h.h7, h.hr, h.hr5, (e 11 (by decide)).trans h.h11, (e 12 (by decide)).trans h.h12, ⟨ad, cap, (e 32 (by decide)).trans h32⟩,
    (e 43 (by decide)).trans h.h43, (e 44 (by decide)).trans h.h44, (e 54 (by decide)).trans h.h54, (e 55 (by decide)).trans h.h55, (e 56 (by decide)).trans h.h56, (e 57 (by decide)).trans h.h57, (e 58 (by decide)).trans h.h58⟩

set_option maxRecDepth 100000 in
set_option maxHeartbeats 2000000 in
/-- 'link(Forward, p)' at a node with one forward entry and no lists. -/
theorem nlink_one (N : Nat) (c : Nat → Value) (k a sk sa uk ua : ByteArray) (r : Int) (hk : k.size ≤ maxLen) (w : World) (hb : Blk w N 258 c) (hN : N < w.heap.size) (hc : NodeIs c uk ua r) (h5 : c 5 = .bool false)
    (h21 : c 21 = .slice (some ⟨N, 66, none⟩) 1 18) (h22 : c 22 = .slice (some ⟨N, 174, none⟩) 1 18) (h23 : c 23 = .int .i64 1) (o : Int) (h28 : c 28 = .int .u64 o) (h66 : c 66 = .string sk) (h67 : c 67 = .string sa) (hpq : peq k a uk ua = false) :
    Calls Yba.prog 12 #[.pointer (some ⟨N, 0, none⟩), .int .u8 0, .agg #[.string k, .string a]] w fun e w' => e = .returned (.tuple #[]) ∧ LinkPost N c k a r w w' := by
  have hb1 := hb.alloc hN (.cells #[.string k, .string a] 25)
  have hN1 : N < (w.alloc (.cells #[.string k, .string a] 25)).heap.size := by simp; omega
  have hp1 := peer_fresh w k a 25
  have hK1 : Kp (fun j => j = N) w (w.alloc (.cells #[.string k, .string a] 25)) := (Kp.refl _ w).alloc _
  go_enter Yba.func12, Yba.ntmps12
  go_wp2_with fail
  obtain ⟨P, hP⟩ : ∃ P, P = w.heap.size := ⟨_, rfl⟩
  rw [← hP] at hp1 ⊢
  have hPN : P ≠ N := by omega
  have hP1 : P < (w.alloc (.cells #[.string k, .string a] 25)).heap.size := by simp; omega
  generalize w.alloc (.cells #[.string k, .string a] 25) = w1 at hb1 hN1 hp1 hK1 hP1 ⊢
  have p0 : w1.cell? ⟨P, 0, none⟩ = some (.string k) := hp1.1 0 (by omega)
  have p1 : w1.cell? ⟨P, 1, none⟩ = some (.string a) := hp1.1 1 (by omega)
  have c0 : w1.cell? ⟨N, 0, none⟩ = some (.string uk) := (hb1.1 0 (by omega)).trans (by rw [hc.h0])
  have c5 : w1.cell? ⟨N, 5, none⟩ = some (.bool false) := (hb1.1 5 (by omega)).trans (by rw [h5])
  have f5 := hb1.2 5
  have c21 : w1.cell? ⟨N, 21, none⟩ = some (.slice (some ⟨N, 66, none⟩) 1 18) := (hb1.1 21 (by omega)).trans (by rw [h21])
  have c66 : w1.cell? ⟨N, 66, none⟩ = some (.string sk) := (hb1.1 66 (by omega)).trans (by rw [h66])
  have c67 : w1.cell? ⟨N, 67, none⟩ = some (.string sa) := (hb1.1 67 (by omega)).trans (by rw [h67])
  clear hP
  go_region_with (first | (go_at_call 20; refine (entry_one N sk sa _ (by exact c21) (by exact c66) (by exact c67) (by exact hN1)).mono ?_; rintro e w2 ⟨rfl, hB2⟩; have d0 := (hB2.cell (p := ⟨N, 0, none⟩) hN1).trans c0; have d5 := (hB2.cell (p := ⟨N, 5, none⟩) hN1).trans c5; have q0 := (hB2.cell (p := ⟨P, 0, none⟩) hP1).trans p0; have q1 := (hB2.cell (p := ⟨P, 1, none⟩) hP1).trans p1; have hN2 : N < w2.heap.size := Nat.lt_of_lt_of_le hN1 hB2.size) | (go_at_call 19; refine (nearer_any N uk _ _ _ _ _ (by first | exact d0 | exact c0) (by first | exact hN2 | exact hN1)).mono ?_; rintro e w3 ⟨⟨b, rfl⟩, hB3⟩; have e5 := hB3.cell (p := ⟨N, 5, none⟩) hN2; rw [d5] at e5; have fe5 := (hB3.frozen (p := ⟨N, 5, none⟩) hN2).trans ((hB2.frozen (p := ⟨N, 5, none⟩) hN1).trans f5)))
  all_goals
    have hb4 := ((hb1.drew.below hB2 hN1).below hB3 hN2).set 5 (by omega) (.bool b)
    have hp4 := ((hp1.drew.below hB2 hP1).below hB3 (Nat.lt_of_lt_of_le hP1 hB2.size)).setOther ⟨N, 5, none⟩ (by simpa using hPN) (.bool b)
    have hK4 := ((hK1.drew.then hB2).then hB3).setCell (p := ⟨N, 5, none⟩) (fun _ => rfl) (.bool b)
    have hN4 : N < (w3.setCell ⟨N, 5, none⟩ (.bool b)).heap.size := by have := hB3.size; simp; omega
    have hP4 : P < (w3.setCell ⟨N, 5, none⟩ (.bool b)).heap.size := by have := hB3.size; have := hB2.size; simp at *; omega
    generalize w3.setCell ⟨N, 5, none⟩ (.bool b) = w4 at hb4 hp4 hK4 hN4 hP4 ⊢
    clear e5 fe5 hB3 d0 d5 q0 q1 hN2 hB2 p0 p1 c0 c5 f5 c21 c66 c67 hb1 hN1 hp1 hK1 hP1
    have c6 := hb4.1 6 (by omega)
    have f6 := hb4.2 6
    have hb5 := hb4.set 6 (by omega) (.bool false)
    have hp5 := hp4.setOther ⟨N, 6, none⟩ (by simpa using hPN) (.bool false)
    have hK5 := hK4.setCell (p := ⟨N, 6, none⟩) (fun _ => rfl) (.bool false)
    have hN5 : N < (w4.setCell ⟨N, 6, none⟩ (.bool false)).heap.size := by simpa using hN4
    have hP5 : P < (w4.setCell ⟨N, 6, none⟩ (.bool false)).heap.size := by simpa using hP4
    go_wp2_with fail
    generalize w4.setCell ⟨N, 6, none⟩ (.bool false) = w5 at hb5 hp5 hK5 hN5 hP5 ⊢
    clear c6 f6 hb4 hp4 hK4 hN4 hP4
    have e43 : w5.cell? ⟨N, 43, none⟩ = some (.string ⟨#[]⟩) := (hb5.1 43 (by omega)).trans (by simp [upd, hc.h43])
    have e44 : w5.cell? ⟨N, 44, none⟩ = some (.string ⟨#[]⟩) := (hb5.1 44 (by omega)).trans (by simp [upd, hc.h44])
    have p0 : w5.cell? ⟨P, 0, none⟩ = some (.string k) := hp5.1 0 (by omega)
    have p1 : w5.cell? ⟨P, 1, none⟩ = some (.string a) := hp5.1 1 (by omega)
    have hpe := peq_self ⟨#[]⟩ ⟨#[]⟩
    go_quiet (fail)
    go_wp2_with fail
    have hlp : LinkPre N (upd (upd c 5 (.bool b)) 6 (.bool false)) := .inr ⟨by simp [upd, h21], by simp [upd, h22], by simp [upd, h23], ⟨o, by simp [upd, h28]⟩, sk, sa, by simp [upd, h66], by simp [upd, h67]⟩
    go_region_with (go_at_call 5; refine (tlink_any N _ k a hk _ (by exact (hb5.drewN _).drew) (by exact hN5) hlp).mono ?_; rintro e w6 ⟨rfl, hs6⟩)
    have hK6 : Kp (fun j => j = N) (w5.drewN nq).drew w6 := by obtain ⟨_, _, h, _⟩ := hs6; exact h
    have hp6 := ((hp5.drewN nq).drew).kept hK6 hP5 hPN
    have q0 : w6.cell? ⟨P, 0, none⟩ = some (.string k) := hp6.1 0 (by omega)
    have q1 : w6.cell? ⟨P, 1, none⟩ = some (.string a) := hp6.1 1 (by omega)
    have hN6 : N < w6.heap.size := Nat.lt_of_lt_of_le hN5 hK6.size
    obtain ⟨c2, hb6, _, hs2, g21, g22, g23, g66, g67, o', g28, g68⟩ := id hs6
    have hc2 : NodeIs c2 uk ua r := hc.of_same fun j hj => by
      simp only [List.mem_cons, List.not_mem_nil, or_false, not_or] at hj
      rw [hs2 j (by simp only [List.mem_cons, List.not_mem_nil, or_false, not_or]; omega)]
      simp only [upd, hj, if_false]
    clear hp6 e43 e44 p0 p1
    have HS : Hid (SetPost N (upd (upd c 5 (.bool b)) 6 (.bool false)) k a (w5.drewN nq).drew w6) := hs6
    clear hs6
    go_wp2_with fail
    refine (relink_one N c2 k a uk ua r w6 hb6 hN6 hc2 hpq).mono ?_
    rintro e w7 ⟨rfl, hr7⟩
    have HF : Hid (LinkPost N c k a r w w7) := by
      obtain ⟨L, g, cap, q1, q2, q3, q4, q5, q6, q7, q8, q9⟩ := hr7
      refine ⟨_, L, g, cap, q1, ?_, rfl, rfl, rfl, g21, rfl, g66, g67, q2, q3, (((hK5.drewN nq).drew).trans hK6).trans q4, ?_, ?_, q7, q8, q9⟩
      · intro j hj
        simp only [List.mem_cons, List.not_mem_nil, or_false, not_or] at hj
        have e1 := hs2 j (by simp only [List.mem_cons, List.not_mem_nil, or_false, not_or]; omega)
        simp only [upd, hj, if_false]
        rw [e1]
        simp only [upd, hj, if_false]
      · have h1 := hK5.size; have h2 := hK6.size; simp at h2; omega
      · have h1 := hK5.size; have h2 := hK6.size; simp at h2; omega
    clear hr7 q0 q1 hs2 g21 g22 g23 g66 g67 g28 g68 hb6 HS
    go_wp2
    go_end0
    exact ⟨rfl, HF.out⟩
end Go.Proofs.Ybulkbpca
