import Derived.Test.YbulkbpcaDel
namespace Go.Proofs.Ybulkbpca
open Go.ChangeShapes Go.WideShapes Go.ChangeAt Go.RowKit
set_option linter.unusedVariables false
attribute [local go_sem ↓] Go.wp_at_zero Go.wp_at_succ
attribute [local go_sem ↓] eq_peer
attribute [local go_sem] guard_peer field_key msg_cells rowL_drew rowL_drewN rowL_alloc rowL_setCell load_msg
attribute [local go_sem ↓] load_msg0

/-- The contacts' slice: nil, or a row of its own. -/
def ConRow (w : World) (S : Value) (n : Nat) (vs ts : Nat → Int) (g : Nat) : Prop :=
  (n = 0 ∧ S = .slice none 0 0) ∨ ∃ cap, S = .slice (some ⟨g, 0, none⟩) n cap ∧ n ≤ cap ∧ g < w.heap.size ∧ (∀ i, i < n → Con w g i (vs i) (ts i)) ∧ ∀ o, w.frozen? ⟨g, o, none⟩ = false

theorem ConRow.below {w w' : World} {S : Value} {n B : Nat} {vs ts : Nat → Int} {g : Nat} (h : ConRow w S n vs ts g) (hb : Below B w w') (hg : g < B) : ConRow w' S n vs ts g := by
  rcases h with h | ⟨cap, h1, h2, h3, h4, h5⟩
  · exact .inl h
  · exact .inr ⟨cap, h1, h2, Nat.lt_of_lt_of_le h3 hb.size, fun i hi => (h4 i hi).below hb hg, fun o => (hb.frozen (p := ⟨g, o, none⟩) hg).trans (h5 o)⟩

theorem ConRow.drewN {w : World} {S : Value} {n : Nat} {vs ts : Nat → Int} {g : Nat} (h : ConRow w S n vs ts g) (q : Nat) : ConRow (w.drewN q) S n vs ts g := by
  rcases h with h | ⟨cap, h1, h2, h3, h4, h5⟩
  · exact .inl h
  · exact .inr ⟨cap, h1, h2, h3, fun i hi => ⟨(h4 i hi).c0, (h4 i hi).c1, (h4 i hi).c2, (h4 i hi).c3, (h4 i hi).c4⟩, h5⟩

/-- What is left of the contacts. -/
def ConKept (w : World) (S : Value) (ks : List Nat) (vs ts : Nat → Int) (g : Nat) : Prop :=
  (ks = [] ∧ S = .slice none 0 0) ∨ ∃ cap, S = .slice (some ⟨g, 0, none⟩) ks.length cap ∧ ∀ q x, ks[q]? = some x → Con w g q (vs x) (ts x)

theorem ConKept.setOther {w : World} {S : Value} {ks : List Nat} {vs ts : Nat → Int} {g N o : Nat} (h : ConKept w S ks vs ts g) (hN : N ≠ g) (v : Value) : ConKept (w.setCell ⟨N, o, none⟩ v) S ks vs ts g := by
  rcases h with h | ⟨cap, h1, h2⟩
  · exact .inl h
  · have hh : ∀ x, (w.setCell ⟨N, o, none⟩ v).cell? ⟨g, x, none⟩ = w.cell? ⟨g, x, none⟩ := fun x => World.cell?_setCell_other _ _ _ _ (by intro e; injection e; omega)
    exact .inr ⟨cap, h1, fun q x hq => ⟨(hh _).trans (h2 q x hq).c0, (hh _).trans (h2 q x hq).c1, (hh _).trans (h2 q x hq).c2, (hh _).trans (h2 q x hq).c3, (hh _).trans (h2 q x hq).c4⟩⟩

set_option maxRecDepth 100000 in
set_option maxHeartbeats 1000000 in
theorem index_nil (M : Nat) (w : World) : Calls Yba.prog 16 #[.slice none 0 0, .func (.func 10) #[] #[.pointer (some ⟨M, 0, none⟩)]] w fun e w' => e = .returned (.int .i64 (-1)) ∧ w' = w := by
  go_enter Yba.func16, Yba.ntmps16
  go_wp2
  refine wp_loop_rounds 1 ?_
  rw [rounds_succ]
  go_wp2
  go_ret
  exact ⟨rfl, rfl⟩

set_option maxRecDepth 100000 in
set_option maxHeartbeats 1000000 in
theorem delete_row (S : Value) (vs ts : Nat → Int) (n g M : Nat) (id : Int) (w : World) (hn : n ≤ 1024) (hS : ConRow w S n vs ts g) (hM : M < w.heap.size) (hMg : M ≠ g) (hid : w.cell? ⟨M, 8, none⟩ = some (.int .u64 id)) :
    Calls Yba.prog 9 #[S, .func (.func 10) #[] #[.pointer (some ⟨M, 0, none⟩)]] w fun e w' => ∃ S', e = .returned S' ∧ ConKept w' S' (kept vs id n) vs ts g ∧ Kp (fun b => b = g) w w' := by
  rcases hS with ⟨rfl, rfl⟩ | ⟨cap, rfl, hcap, hg, hc, hf⟩
  · go_enter Yba.func9, Yba.ntmps9
    go_wp2_with fail
    refine (index_nil M w).mono ?_
    rintro e w1 ⟨rfl, hw⟩
    rw [hw]
    clear hw
    go_wp2
    go_ret
    exact ⟨_, rfl, .inl ⟨rfl, rfl⟩, Kp.refl _ _⟩
  · refine (delete_any vs ts n cap g M id w hn hcap hg hM hMg hid hc hf).mono ?_
    rintro e w' ⟨rfl, h1, h2⟩
    exact ⟨_, rfl, .inr ⟨cap, rfl, h1⟩, h2⟩

set_option maxRecDepth 100000 in
set_option maxHeartbeats 1000000 in
/-- 'merge' where the message's peer is the node itself: the contacts of the message's id are struck. -/
theorem merge_self (N : Nat) (c : Nat → Value) (fk fa uk ua key : ByteArray) (id hops : Int) (S : Value) (vs ts : Nat → Int) (n g : Nat) (w : World) (hb : Blk w N 258 c) (hN : N < w.heap.size) (hn : n ≤ 1024) (h0 : c 0 = .string uk) (h1 : c 1 = .string ua) (h19 : c 19 = S) (hS : ConRow w S n vs ts g) (hgN : g ≠ N) (hgw : g < w.heap.size) :
    Calls Yba.prog 6 #[.pointer (some ⟨N, 0, none⟩), .agg (msgA fk fa uk ua id key hops)] w fun e w' => e = .returned (.tuple #[]) ∧ ∃ S', Blk w' N 258 (upd c 19 S') ∧ ConKept w' S' (kept vs id n) vs ts g ∧ Kp (fun b => b = N ∨ b = g) w w' := by
  have hm := msg_fresh w fk fa uk ua id key hops 65
  have m6 : (w.alloc (.cells (msgA fk fa uk ua id key hops) 65)).cell? ⟨w.heap.size, 6, none⟩ = some (.string uk) := hm.1 6 (by omega)
  have m7 : (w.alloc (.cells (msgA fk fa uk ua id key hops) 65)).cell? ⟨w.heap.size, 7, none⟩ = some (.string ua) := hm.1 7 (by omega)
  have hpq := peq_self uk ua
  have c0 : w.cell? ⟨N, 0, none⟩ = some (.string uk) := (hb.1 0 (by omega)).trans (by rw [h0])
  have c1 : w.cell? ⟨N, 1, none⟩ = some (.string ua) := (hb.1 1 (by omega)).trans (by rw [h1])
  have c19 : w.cell? ⟨N, 19, none⟩ = some S := (hb.1 19 (by omega)).trans (by rw [h19])
  go_enter Yba.func6, Yba.ntmps6
  go_wp2
  have hb2 := (hb.alloc hN (.cells (msgA fk fa uk ua id key hops) 65)).alloc (by simp; omega) (.cells #[.string uk, .string ua] 25)
  have hm2 := hm.alloc (by simp) (.cells #[.string uk, .string ua] 25)
  have hp2 := peer_fresh (w.alloc (.cells (msgA fk fa uk ua id key hops) 65)) uk ua 25
  have hB2 : Below w.heap.size w ((w.alloc (.cells (msgA fk fa uk ua id key hops) 65)).alloc (.cells #[.string uk, .string ua] 25)) := ((Below.refl _ w).alloc (Nat.le_refl _) _).alloc (by simp) _
  have hs2 : ((w.alloc (.cells (msgA fk fa uk ua id key hops) 65)).alloc (.cells #[.string uk, .string ua] 25)).heap.size = w.heap.size + 2 := by simp
  rw [World.size_alloc] at hp2
  obtain ⟨P, hP⟩ : ∃ P, P = w.heap.size := ⟨_, rfl⟩
  rw [← hP] at hm2 hp2 hs2 ⊢
  generalize World.alloc _ (.cells #[.string uk, .string ua] 25) = w2 at hb2 hm2 hp2 hB2 hs2 ⊢
  have HP : Hid (P = w.heap.size ∧ w2.heap.size = P + 2) := ⟨hP, hs2⟩
  have hN2 : N < w2.heap.size := by omega
  have hM2 : P < w2.heap.size := by omega
  have hX2 : P + 1 < w2.heap.size := by omega
  have hMg : P ≠ g := by omega
  have hgN' : N ≠ g := fun e => hgN e.symm
  clear hm m6 m7 c0 c1 c19 hP hs2
  have c0 : w2.cell? ⟨N, 0, none⟩ = some (.string uk) := (hb2.1 0 (by omega)).trans (by rw [h0])
  have c1 : w2.cell? ⟨N, 1, none⟩ = some (.string ua) := (hb2.1 1 (by omega)).trans (by rw [h1])
  have c19 : w2.cell? ⟨N, 19, none⟩ = some S := (hb2.1 19 (by omega)).trans (by rw [h19])
  have p0 : w2.cell? ⟨P + 1, 0, none⟩ = some (.string uk) := hp2.1 0 (by omega)
  have p1 : w2.cell? ⟨P + 1, 1, none⟩ = some (.string ua) := hp2.1 1 (by omega)
  have hid : w2.cell? ⟨P, 8, none⟩ = some (.int .u64 id) := hm2.1 8 (by omega)
  have hS2 : ConRow w2 S n vs ts g := hS.below hB2 hgw
  go_quiet (fail)
  go_wp2_with fail
  refine (delete_row S vs ts n g P id _ hn (hS2.drewN nq) (by exact hM2) hMg (by exact hid)).mono ?_
  rintro e w3 ⟨S', rfl, hk3, hK3⟩
  have hN3 : N < w3.heap.size := Nat.lt_of_lt_of_le hN2 hK3.size
  have hb3 : Blk w3 N 258 c := (hb2.drewN nq).kept hK3 (by exact hN2) hgN'
  have hKf : Kp (fun b => b = N ∨ b = g) w w3 := (((Kp.of_below hB2).drewN nq).trans (hK3.mono fun k h => .inr h))
  have f19 := hb3.2 19
  have d19 := hb3.1 19 (by omega)
  have HF : Hid (ConKept w3 S' (kept vs id n) vs ts g) := hk3
  obtain ⟨sa, sn, sc, rfl⟩ : ∃ a n c, S' = .slice a n c := by rcases hk3 with ⟨_, rfl⟩ | ⟨cap, rfl, _⟩ <;> exact ⟨_, _, _, rfl⟩
  clear hk3 hK3 c0 c1 c19 p0 p1 hid hS2 hm2 hp2 hb2 hN2 hM2 hX2 hS
  go_wp2
  go_end0
  exact ⟨rfl, _, hb3.set 19 (by omega) _, HF.out.setOther hgN' _, hKf.setCell (fun _ => .inl rfl) _⟩

def hostC (g cap g2 cap2 : Nat) (n : Int) : Nat → Value := fun j => if j = 0 then .slice (some ⟨g, 0, none⟩) 1 cap else if j = 1 then .slice (some ⟨g2, 0, none⟩) 1 cap2 else .int .i64 n

/-- What 'merge' leaves where the message's peer comes between the node and its successor. -/
def OwnPost (N H : Nat) (c : Nat → Value) (uk ua xk xa key : ByteArray) (id hops r : Int) (w w' : World) : Prop :=
  ∃ (c' : Nat → Value) (L lg lcap g cap g2 cap2 : Nat), Blk w' N 258 c' ∧ (∀ j, j ∉ [5, 6, 11, 12, 21, 22, 23, 24, 28, 29, 30, 57, 66, 67, 68, 174] → c' j = c j) ∧
    c' 5 = .bool true ∧ c' 11 = .pointer (some ⟨L, 0, none⟩) ∧ c' 12 = .int .u64 1 ∧ c' 21 = .slice (some ⟨N, 66, none⟩) 1 18 ∧ c' 57 = .int .i64 (minI 2 r) ∧ c' 66 = .string xk ∧ c' 67 = .string xa ∧
    Blk w' L 2 (listsC lg lcap) ∧ Blk w' lg 2 (peerC xk xa) ∧ Blk w' H 3 (hostC g cap g2 cap2 0) ∧ Blk w' g 2 (peerC xk xa) ∧ Blk w' g2 23 (msgC uk ua xk xa id key hops) ∧ Kp (fun b => b = N ∨ b = H) w w'

set_option maxRecDepth 100000 in
set_option maxHeartbeats 1000000 in
/-- 'merge' where the message's peer comes between the node and its successor: it is linked, and told. -/
theorem merge_own (N H : Nat) (c : Nat → Value) (fk fa uk ua sk sa xk xa key : ByteArray) (id hops r : Int) (hk : xk.size ≤ maxLen) (w : World) (hb : Blk w N 258 c) (hN : N < w.heap.size) (hc : NodeIs c uk ua r) (h2 : c 2 = .iface 26 (.pointer (some ⟨H, 0, none⟩))) (h5 : c 5 = .bool false)
    (h21 : c 21 = .slice (some ⟨N, 66, none⟩) 1 18) (h22 : c 22 = .slice (some ⟨N, 174, none⟩) 1 18) (h23 : c 23 = .int .i64 1) (o : Int) (h28 : c 28 = .int .u64 o) (h66 : c 66 = .string sk) (h67 : c 67 = .string sa)
    (hh : Blk w H 3 (fun j => if j = 2 then .int .i64 0 else .slice none 0 0)) (hH : H < w.heap.size) (hHN : H ≠ N) (hpq : peq xk xa uk ua = false) (harc : arc uk xk sk = true) :
    Calls Yba.prog 6 #[.pointer (some ⟨N, 0, none⟩), .agg (msgA fk fa xk xa id key hops)] w fun e w' => e = .returned (.tuple #[]) ∧ OwnPost N H c uk ua xk xa key id hops r w w' := by
  have h0 := hc.h0
  have h1 := hc.h1
  have hm := msg_fresh w fk fa xk xa id key hops 65
  have m6 : (w.alloc (.cells (msgA fk fa xk xa id key hops) 65)).cell? ⟨w.heap.size, 6, none⟩ = some (.string xk) := hm.1 6 (by omega)
  have m7 : (w.alloc (.cells (msgA fk fa xk xa id key hops) 65)).cell? ⟨w.heap.size, 7, none⟩ = some (.string xa) := hm.1 7 (by omega)
  go_enter Yba.func6, Yba.ntmps6
  go_wp2
  have hb2 := (hb.alloc hN (.cells (msgA fk fa xk xa id key hops) 65)).alloc (by simp; omega) (.cells #[.string xk, .string xa] 25)
  have hh2 := (hh.alloc hH (.cells (msgA fk fa xk xa id key hops) 65)).alloc (by simp; omega) (.cells #[.string xk, .string xa] 25)
  have hm2 := hm.alloc (by simp) (.cells #[.string xk, .string xa] 25)
  have hp2 := peer_fresh (w.alloc (.cells (msgA fk fa xk xa id key hops) 65)) xk xa 25
  have hB2 : Below w.heap.size w ((w.alloc (.cells (msgA fk fa xk xa id key hops) 65)).alloc (.cells #[.string xk, .string xa] 25)) := ((Below.refl _ w).alloc (Nat.le_refl _) _).alloc (by simp) _
  have hs2 : ((w.alloc (.cells (msgA fk fa xk xa id key hops) 65)).alloc (.cells #[.string xk, .string xa] 25)).heap.size = w.heap.size + 2 := by simp
  rw [World.size_alloc] at hp2
  obtain ⟨P, hP⟩ : ∃ P, P = w.heap.size := ⟨_, rfl⟩
  rw [← hP] at hm2 hp2 hs2 ⊢
  generalize World.alloc _ (.cells #[.string xk, .string xa] 25) = w2 at hb2 hh2 hm2 hp2 hB2 hs2 ⊢
  have hN2 : N < w2.heap.size := by omega
  have hH2 : H < w2.heap.size := by omega
  have hM2 : P < w2.heap.size := by omega
  have hX2 : P + 1 < w2.heap.size := by omega
  have hPN : P ≠ N := by omega
  have hXN : P + 1 ≠ N := by omega
  clear hm m6 m7 hP hs2
  have c0 : w2.cell? ⟨N, 0, none⟩ = some (.string uk) := (hb2.1 0 (by omega)).trans (by rw [h0])
  have c1 : w2.cell? ⟨N, 1, none⟩ = some (.string ua) := (hb2.1 1 (by omega)).trans (by rw [h1])
  have c21 : w2.cell? ⟨N, 21, none⟩ = some (.slice (some ⟨N, 66, none⟩) 1 18) := (hb2.1 21 (by omega)).trans (by rw [h21])
  have c66 : w2.cell? ⟨N, 66, none⟩ = some (.string sk) := (hb2.1 66 (by omega)).trans (by rw [h66])
  have c67 : w2.cell? ⟨N, 67, none⟩ = some (.string sa) := (hb2.1 67 (by omega)).trans (by rw [h67])
  have p0 : w2.cell? ⟨P + 1, 0, none⟩ = some (.string xk) := hp2.1 0 (by omega)
  have p1 : w2.cell? ⟨P + 1, 1, none⟩ = some (.string xa) := hp2.1 1 (by omega)
  go_quiet (fail)
  go_wp2_with fail
  refine (owns_any N uk sk sa xk _ (by exact c0) (by exact c21) (by exact c66) (by exact c67) (by exact hN2)).mono ?_
  rintro e w3 ⟨rfl, hB3⟩
  have hs3 : w2.heap.size ≤ w3.heap.size := hB3.size
  have hBw3 : Below w.heap.size w w3 := hB2.trans ((show Below w2.heap.size w2 w3 from ⟨hB3.os, hB3.tape, hB3.output, hB3.size, hB3.block⟩).mono hB2.size)
  have hb3 : Blk w3 N 258 c := (hb2.drewN nq).below hB3 (by exact hN2)
  have hh3 := (hh2.drewN nq).below hB3 (by exact hH2)
  have hm3 := (hm2.drewN nq).below hB3 (by exact hM2)
  have hp3 := (hp2.drewN nq).below hB3 (by exact hX2)
  clear hb2 hh2 hm2 hp2 hB2 c0 c1 c21 c66 c67 p0 p1 hB3 h0 h1
  have p0 : w3.cell? ⟨P + 1, 0, none⟩ = some (.string xk) := hp3.1 0 (by omega)
  have p1 : w3.cell? ⟨P + 1, 1, none⟩ = some (.string xa) := hp3.1 1 (by omega)
  rw [harc]
  go_wp2_with fail
  refine (nlink_one N c xk xa sk sa uk ua r hk w3 hb3 (by omega) hc h5 h21 h22 h23 o h28 h66 h67 hpq).mono ?_
  rintro e w4 ⟨rfl, c', L, lg, lcap, q1, q2, q3, q4, q5, q6, q7, q8, q9, q10, q11, q12, q13, q14, q15, q16, q17⟩
  have hs4 := q12.size
  have hh4 := hh3.kept q12 (by omega) hHN
  have hm4 := hm3.kept q12 (by omega) hPN
  have hp4 := hp3.kept q12 (by omega) hXN
  clear hb3 hh3 hm3 hp3 p0 p1
  have hrow := msg_rowL hm4
  have p0 : w4.cell? ⟨P + 1, 0, none⟩ = some (.string xk) := hp4.1 0 (by omega)
  have p1 : w4.cell? ⟨P + 1, 1, none⟩ = some (.string xa) := hp4.1 1 (by omega)
  have QL : Hid (w3.heap.size ≤ L ∧ w3.heap.size ≤ lg ∧ w2.heap.size ≤ w3.heap.size ∧ w3.heap.size ≤ w4.heap.size) := ⟨q13, q14, hs3, hs4⟩
  clear q13 q14 hs3 hs4
  go_wp2_with fail
  refine (send_any N H c' xk xa fk fa uk ua xk xa key id hops 0 w4 q1 (by have := QL.out; omega) ((q2 0 (by decide)).trans hc.h0) ((q2 1 (by decide)).trans hc.h1) ((q2 2 (by decide)).trans h2) hh4 (by have := QL.out; omega)).mono ?_
  rintro e w5 ⟨rfl, hs5⟩
  have HF : Hid (SentPost H xk xa uk ua xk xa id key hops 0 w4 w5) := hs5
  clear hs5 p0 p1 hrow
  go_wp2
  go_end0
  obtain ⟨g, cap, g2, cap2, s1, s2, s3, s4, s5, s6, s7⟩ := HF.out
  obtain ⟨l1, l2, l3, l4⟩ := QL.out
  have hw3 := hBw3.size
  exact ⟨rfl, c', L, lg, lcap, g, cap, g2, cap2, q1.kept s4 (by omega) (Ne.symm hHN), q2, q3, q4, q5, q6, q7, q8, q9, q10.kept s4 (q10.lt (by omega)) (by omega), q11.kept s4 (q11.lt (by omega)) (by omega), s1, s2, s3,
    ((Kp.of_below hBw3).trans (q12.mono fun k h => .inl h)).trans (s4.mono fun k h => .inr h)⟩

/-- What 'merge' leaves where the message's peer lies past the successor. -/
def FarPost (N H : Nat) (c : Nat → Value) (sk sa uk ua xk xa key : ByteArray) (id hops : Int) (w w' : World) : Prop :=
  ∃ (g cap g2 cap2 : Nat), Blk w' N 258 c ∧ Blk w' H 3 (hostC g cap g2 cap2 0) ∧ Blk w' g 2 (peerC sk sa) ∧ Blk w' g2 23 (msgC uk ua xk xa id key hops) ∧ Kp (fun b => b = H) w w'

set_option maxRecDepth 100000 in
set_option maxHeartbeats 1000000 in
/-- 'merge' where the message's peer lies past the successor: the message goes on to the successor. -/
theorem merge_far (N H : Nat) (c : Nat → Value) (fk fa uk ua sk sa xk xa key m : ByteArray) (id hops : Int) (ad : Option Addr) (cap : Nat) (w : World) (hb : Blk w N 258 c) (hN : N < w.heap.size) (h0 : c 0 = .string uk) (h1 : c 1 = .string ua) (h2 : c 2 = .iface 26 (.pointer (some ⟨H, 0, none⟩)))
    (h21 : c 21 = .slice (some ⟨N, 66, none⟩) 1 18) (h23 : c 23 = .int .i64 1) (h32 : c 32 = .slice ad 0 cap) (h34 : c 34 = .int .i64 0) (h66 : c 66 = .string sk) (h67 : c 67 = .string sa) (h68 : c 68 = .string m)
    (hh : Blk w H 3 (fun j => if j = 2 then .int .i64 0 else .slice none 0 0)) (hH : H < w.heap.size) (hHN : H ≠ N) (hpq : peq xk xa uk ua = false) (harc : arc uk xk sk = false) :
    Calls Yba.prog 6 #[.pointer (some ⟨N, 0, none⟩), .agg (msgA fk fa xk xa id key hops)] w fun e w' => e = .returned (.tuple #[]) ∧ FarPost N H c sk sa uk ua xk xa key id hops w w' := by
  have hm := msg_fresh w fk fa xk xa id key hops 65
  have m6 : (w.alloc (.cells (msgA fk fa xk xa id key hops) 65)).cell? ⟨w.heap.size, 6, none⟩ = some (.string xk) := hm.1 6 (by omega)
  have m7 : (w.alloc (.cells (msgA fk fa xk xa id key hops) 65)).cell? ⟨w.heap.size, 7, none⟩ = some (.string xa) := hm.1 7 (by omega)
  go_enter Yba.func6, Yba.ntmps6
  go_wp2
  have hb2 := (hb.alloc hN (.cells (msgA fk fa xk xa id key hops) 65)).alloc (by simp; omega) (.cells #[.string xk, .string xa] 25)
  have hh2 := (hh.alloc hH (.cells (msgA fk fa xk xa id key hops) 65)).alloc (by simp; omega) (.cells #[.string xk, .string xa] 25)
  have hm2 := hm.alloc (by simp) (.cells #[.string xk, .string xa] 25)
  have hp2 := peer_fresh (w.alloc (.cells (msgA fk fa xk xa id key hops) 65)) xk xa 25
  have hB2 : Below w.heap.size w ((w.alloc (.cells (msgA fk fa xk xa id key hops) 65)).alloc (.cells #[.string xk, .string xa] 25)) := ((Below.refl _ w).alloc (Nat.le_refl _) _).alloc (by simp) _
  have hs2 : ((w.alloc (.cells (msgA fk fa xk xa id key hops) 65)).alloc (.cells #[.string xk, .string xa] 25)).heap.size = w.heap.size + 2 := by simp
  rw [World.size_alloc] at hp2
  obtain ⟨P, hP⟩ : ∃ P, P = w.heap.size := ⟨_, rfl⟩
  rw [← hP] at hm2 hp2 hs2 ⊢
  generalize World.alloc _ (.cells #[.string xk, .string xa] 25) = w2 at hb2 hh2 hm2 hp2 hB2 hs2 ⊢
  have hN2 : N < w2.heap.size := by omega
  have hH2 : H < w2.heap.size := by omega
  have hM2 : P < w2.heap.size := by omega
  have hX2 : P + 1 < w2.heap.size := by omega
  have hPN : P ≠ N := by omega
  have hXN : P + 1 ≠ N := by omega
  clear hm m6 m7 hP hs2
  have c0 : w2.cell? ⟨N, 0, none⟩ = some (.string uk) := (hb2.1 0 (by omega)).trans (by rw [h0])
  have c1 : w2.cell? ⟨N, 1, none⟩ = some (.string ua) := (hb2.1 1 (by omega)).trans (by rw [h1])
  have c21 : w2.cell? ⟨N, 21, none⟩ = some (.slice (some ⟨N, 66, none⟩) 1 18) := (hb2.1 21 (by omega)).trans (by rw [h21])
  have c66 : w2.cell? ⟨N, 66, none⟩ = some (.string sk) := (hb2.1 66 (by omega)).trans (by rw [h66])
  have c67 : w2.cell? ⟨N, 67, none⟩ = some (.string sa) := (hb2.1 67 (by omega)).trans (by rw [h67])
  have p0 : w2.cell? ⟨P + 1, 0, none⟩ = some (.string xk) := hp2.1 0 (by omega)
  have p1 : w2.cell? ⟨P + 1, 1, none⟩ = some (.string xa) := hp2.1 1 (by omega)
  go_quiet (fail)
  go_wp2_with fail
  refine (owns_any N uk sk sa xk _ (by exact c0) (by exact c21) (by exact c66) (by exact c67) (by exact hN2)).mono ?_
  rintro e w3 ⟨rfl, hB3⟩
  have hs3 : w2.heap.size ≤ w3.heap.size := hB3.size
  have hBw3 : Below w.heap.size w w3 := hB2.trans ((show Below w2.heap.size w2 w3 from ⟨hB3.os, hB3.tape, hB3.output, hB3.size, hB3.block⟩).mono hB2.size)
  have hb3 : Blk w3 N 258 c := (hb2.drewN nq).below hB3 (by exact hN2)
  have hh3 := (hh2.drewN nq).below hB3 (by exact hH2)
  have hm3 := (hm2.drewN nq).below hB3 (by exact hM2)
  have hp3 := (hp2.drewN nq).below hB3 (by exact hX2)
  clear hb2 hh2 hm2 hp2 hB2 c0 c1 c21 c66 c67 p0 p1 hB3
  have p0 : w3.cell? ⟨P + 1, 0, none⟩ = some (.string xk) := hp3.1 0 (by omega)
  have p1 : w3.cell? ⟨P + 1, 1, none⟩ = some (.string xa) := hp3.1 1 (by omega)
  have hrow := msg_rowL hm3
  rw [harc]
  go_wp2_with fail
  have hN3 : N < w3.heap.size := by omega
  have hH3 : H < w3.heap.size := by omega
  have hP3 : P < w3.heap.size := by omega
  clear hs3
  go_region_with (first
    | (go_at_call 14; refine (furthest_any N c sk sa xk m ad cap _ (by exact hb3.drew) (by exact hN3) h21 h23 h32 h34 h66 h67 h68).mono ?_; rintro e w4 ⟨rfl, hB4⟩; have hrow4 : rowL w4 ⟨P, 0, none⟩ 23 = some (msgL fk fa xk xa id key hops) := (rowL_of_block (hB4.block P (by exact hP3))).trans hrow)
    | (go_at_call 13; refine (send_any N H c sk sa fk fa uk ua xk xa key id hops 0 _ (hb3.drew.below hB4 (by exact hN3)) (Nat.lt_of_lt_of_le hN3 hB4.size) h0 h1 h2 (hh3.drew.below hB4 (by exact hH3)) (Nat.lt_of_lt_of_le hH3 hB4.size)).mono ?_; rintro e w5 ⟨rfl, hs5⟩; have HF : Hid (SentPost H sk sa uk ua xk xa id key hops 0 w4 w5) := hs5; clear hs5))
  all_goals go_wp2
  all_goals go_end0
  all_goals
    obtain ⟨g, gcap, g2, cap2, s1, s2, s3, s4, s5, s6, s7⟩ := HF.out
    exact ⟨rfl, g, gcap, g2, cap2, (hb3.drew.below hB4 (by exact hN3)).kept s4 (Nat.lt_of_lt_of_le hN3 hB4.size) (Ne.symm hHN), s1, s2, s3, ((Kp.of_below hBw3).drew.then hB4).trans s4⟩
end Go.Proofs.Ybulkbpca
