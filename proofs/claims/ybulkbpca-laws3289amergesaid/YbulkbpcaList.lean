import Derived.Test.YbulkbpcaNear
namespace Go.Proofs.Ybulkbpca
open Go.ChangeShapes Go.WideShapes Go.ChangeAt Go.RowKit
set_option linter.unusedVariables false
attribute [local go_sem ↓] Go.wp_at_zero Go.wp_at_succ
attribute [local go_sem ↓] eq_peer
attribute [local go_sem] guard_peer field_key

set_option maxRecDepth 100000 in
set_option maxHeartbeats 1000000 in
theorem in_nil (d : Int) (w : World) :
    Calls Yba.prog 25 #[.pointer none, .int .u8 d] w fun e w' => e = .returned (.slice none 0 0) ∧ w' = w := by
  go_enter Yba.func25, Yba.ntmps25
  go_wp2
  go_ret
  exact ⟨rfl, rfl⟩

set_option maxRecDepth 100000 in
set_option maxHeartbeats 1000000 in
theorem in_fwd (L : Nat) (ad : Option Addr) (n cap : Nat) (w : World) (c0 : w.cell? ⟨L, 0, none⟩ = some (.slice ad n cap)) :
    Calls Yba.prog 25 #[.pointer (some ⟨L, 0, none⟩), .int .u8 0] w fun e w' => e = .returned (.slice ad n cap) ∧ w' = w := by
  go_enter Yba.func25, Yba.ntmps25
  go_wp2
  go_ret
  exact ⟨rfl, rfl⟩

set_option maxRecDepth 100000 in
set_option maxHeartbeats 1000000 in
theorem in_bwd (L : Nat) (ad : Option Addr) (n cap : Nat) (w : World) (c1 : w.cell? ⟨L, 1, none⟩ = some (.slice ad n cap)) :
    Calls Yba.prog 25 #[.pointer (some ⟨L, 0, none⟩), .int .u8 1] w fun e w' => e = .returned (.slice ad n cap) ∧ w' = w := by
  go_enter Yba.func25, Yba.ntmps25
  go_wp2
  go_ret
  exact ⟨rfl, rfl⟩

theorem in_at (L : Nat) (x0 x1 : Value) (d : Int) (w : World) (hd : d = 0 ∨ d = 1) (h0 : ∃ a n c, x0 = .slice a n c) (h1 : ∃ a n c, x1 = .slice a n c) (c0 : w.cell? ⟨L, 0, none⟩ = some x0) (c1 : w.cell? ⟨L, 1, none⟩ = some x1) :
    Calls Yba.prog 25 #[.pointer (some ⟨L, 0, none⟩), .int .u8 d] w fun e w' => e = .returned (if d = 0 then x0 else x1) ∧ w' = w := by
  obtain ⟨a, n, c, rfl⟩ := h0
  obtain ⟨a', n', c', rfl⟩ := h1
  rcases hd with rfl | rfl
  · exact in_fwd L _ _ _ w c0
  · exact in_bwd L _ _ _ w c1

set_option maxRecDepth 100000 in
set_option maxHeartbeats 1000000 in
/-- Lists of different lengths are not equal. -/
theorem equalPeers_no (ad : Option Addr) (cap : Nat) (w : World) :
    Calls Yba.prog 28 #[.slice none 0 0, .slice ad 1 cap] w fun e w' => e = .returned (.bool false) ∧ w' = w := by
  go_enter Yba.func28, Yba.ntmps28
  go_wp2
  go_ret
  exact ⟨rfl, rfl⟩

set_option maxRecDepth 100000 in
set_option maxHeartbeats 1000000 in
/-- An empty list contains nobody. -/
theorem contains_none (ad : Option Addr) (cap : Nat) (k a : ByteArray) (w : World) :
    Calls Yba.prog 33 #[.slice ad 0 cap, .agg #[.string k, .string a]] w fun e w' => e = .returned (.bool false) ∧ w' = w.alloc (.cells #[.string k, .string a] 25) := by
  go_enter Yba.func33, Yba.ntmps33
  go_wp2
  refine wp_loop_rounds 1 ?_
  rw [rounds_succ]
  go_wp2
  go_ret
  exact ⟨rfl, rfl⟩

/-- Go's 'min' of two ints. -/
def minI (a b : Int) : Int := if a < b then a else b

theorem lookup_nil (k a : ByteArray) (w : World) : Sem.run Yba.prog (Instr.lookup 53 (.map none) (.agg #[.string k, .string a]) true) w = .ok (.tuple #[.int .i64 0, .bool false]) w := by kernel_rfl

set_option maxRecDepth 100000 in
set_option maxHeartbeats 1000000 in
/-- 'counts(p)': p is not the node itself, and nobody is leaving. -/
theorem counts_yes (N C : Nat) (k a uk ua : ByteArray) (w : World) (hC : w.cell? ⟨C, 0, none⟩ = some (.pointer (some ⟨N, 0, none⟩))) (c0 : w.cell? ⟨N, 0, none⟩ = some (.string uk)) (c1 : w.cell? ⟨N, 1, none⟩ = some (.string ua))
    (c58 : w.cell? ⟨N, 58, none⟩ = some (.map none)) (hN : N < w.heap.size) (hCw : C < w.heap.size) (hpq : peq k a uk ua = false) :
    Calls Yba.prog 38 #[.agg #[.string k, .string a], .pointer (some ⟨C, 0, none⟩)] w fun e w' => e = .returned (.bool true) ∧ Below w.heap.size w w' := by
  have hB : Below w.heap.size w (w.alloc (.cells #[.string k, .string a] 25)) := (Below.refl _ _).alloc (Nat.le_refl _) _
  have hlk := lookup_nil
  go_enter Yba.func38, Yba.ntmps38
  go_wp2
  go_quiet (fail)
  go_wp2
  go_quiet (fail)
  go_wp2
  go_ret
  exact ⟨rfl, below_drewN (below_drewN hB _) _⟩

set_option maxRecDepth 100000 in
set_option maxHeartbeats 400000 in
/-- 'listed()': the forward list names one node, another than this; the backward list none. -/
theorem listed_two (N L g cap : Nat) (c : Nat → Value) (k a uk ua : ByteArray) (r : Int) (w : World) (hb : Blk w N 258 c) (hN : N < w.heap.size) (hL : L < w.heap.size) (hg : g < w.heap.size)
    (h0 : c 0 = .string uk) (h1 : c 1 = .string ua) (h7 : c 7 = .int .i64 r) (h11 : c 11 = .pointer (some ⟨L, 0, none⟩)) (h58 : c 58 = .map none)
    (hl : Blk w L 2 (fun j => if j = 0 then .slice (some ⟨g, 0, none⟩) 1 cap else .slice none 0 0)) (hp : Blk w g 2 (peerC k a)) (hpq : peq k a uk ua = false) :
    Calls Yba.prog 29 #[.pointer (some ⟨N, 0, none⟩)] w fun e w' => e = .returned (.int .i64 (minI 2 r)) ∧ Below w.heap.size w w' := by
  have c11 := (hb.1 11 (by omega)).trans (by rw [h11])
  have l0 : w.cell? ⟨L, 0, none⟩ = some (.slice (some ⟨g, 0, none⟩) 1 cap) := hl.1 0 (by omega)
  have l1 : w.cell? ⟨L, 1, none⟩ = some (.slice none 0 0) := hl.1 1 (by omega)
  have p0 : w.cell? ⟨g, 0, none⟩ = some (.string k) := hp.1 0 (by omega)
  have p1 : w.cell? ⟨g, 1, none⟩ = some (.string a) := hp.1 1 (by omega)
  go_enter Yba.func29, Yba.ntmps29
  go_wp2_with fail
  go_quiet ((go_at_call 25; exact Calls.quiet_of_same (in_at L (.slice (some ⟨g, 0, none⟩) 1 cap) (.slice none 0 0) _ _ (by decide) ⟨_, _, _, rfl⟩ ⟨_, _, _, rfl⟩ (by go_simp) (by go_simp))))
  go_wp2_with fail
  have hbox : Blk (w.alloc (.cells #[.pointer (some ⟨N, 0, none⟩)] 31)) w.heap.size 1 (fun _ => .pointer (some ⟨N, 0, none⟩)) :=
    (Blk.fresh w #[.pointer (some ⟨N, 0, none⟩)] 31).congr (fun j hj => by have h : j = 0 := (by simpa using hj); subst h; rfl)
  have hB1 : Below w.heap.size w (w.alloc (.cells #[.pointer (some ⟨N, 0, none⟩)] 31)) := (Below.refl _ _).alloc (Nat.le_refl _) _
  have hs1 : (w.alloc (.cells #[.pointer (some ⟨N, 0, none⟩)] 31)).heap.size = w.heap.size + 1 := by simp
  have hbox2 := hbox.drewN nq
  have hB2 := below_drewN hB1 nq
  have hs2 : ((w.alloc (.cells #[.pointer (some ⟨N, 0, none⟩)] 31)).drewN nq).heap.size = w.heap.size + 1 := hs1
  generalize World.drewN _ nq = w1 at hbox2 hB2 hs2 ⊢
  clear hbox hB1 hs1 c11 l0 l1 p0 p1
  have hb1 := hb.below hB2 hN
  have hp1 := hp.below hB2 hg
  have p0 : w1.cell? ⟨g, 0, none⟩ = some (.string k) := hp1.1 0 (by omega)
  have p1 : w1.cell? ⟨g, 1, none⟩ = some (.string a) := hp1.1 1 (by omega)
  refine wp_loop_rounds 2 ?_
  rw [rounds_succ]
  go_wp2_with fail
  have hP : Blk (w1.alloc (.cells #[.string k, .string a] 25)) w1.heap.size 2 (peerC k a) := peer_fresh w1 k a 25
  have hb2 := hb1.alloc (by omega) (.cells #[.string k, .string a] 25)
  have hbox3 := hbox2.alloc (by omega) (.cells #[.string k, .string a] 25)
  have hB3 := hB2.alloc (by omega) (.cells #[.string k, .string a] 25)
  have hs3 : (w1.alloc (.cells #[.string k, .string a] 25)).heap.size = w.heap.size + 2 := by simp [hs2]
  rw [hs2] at hP
  generalize w1.alloc (.cells #[.string k, .string a] 25) = w2 at hP hb2 hbox3 hB3 hs3 ⊢
  clear hbox2 hB2 hb1 hp1 p0 p1
  have q0 : w2.cell? ⟨w.heap.size + 1, 0, none⟩ = some (.string k) := hP.1 0 (by omega)
  have q1 : w2.cell? ⟨w.heap.size + 1, 1, none⟩ = some (.string a) := hP.1 1 (by omega)
  have d0 : w2.cell? ⟨N, 0, none⟩ = some (.string uk) := (hb2.1 0 (by omega)).trans (by rw [h0])
  have d1 : w2.cell? ⟨N, 1, none⟩ = some (.string ua) := (hb2.1 1 (by omega)).trans (by rw [h1])
  have d58 : w2.cell? ⟨N, 58, none⟩ = some (.map none) := (hb2.1 58 (by omega)).trans (by rw [h58])
  have dC : w2.cell? ⟨w.heap.size, 0, none⟩ = some (.pointer (some ⟨N, 0, none⟩)) := hbox3.1 0 (by omega)
  have hNw : N < w2.heap.size := by omega
  have hCw : w.heap.size < w2.heap.size := by omega
  have hPw : w.heap.size + 1 < w2.heap.size := by omega
  have HS : Hid (w2.heap.size = w.heap.size + 2) := hs3
  clear hs3 hs2
  go_region_with (first | (go_at_call 38; refine (counts_yes N w.heap.size k a uk ua _ (by exact dC) (by exact d0) (by exact d1) (by exact d58) (by exact hNw) (by exact hCw) hpq).mono ?_; rintro e w3 ⟨rfl, hB4⟩; have r0 := (hB4.cell (p := ⟨w.heap.size + 1, 0, none⟩) hPw).trans q0; have r1 := (hB4.cell (p := ⟨w.heap.size + 1, 1, none⟩) hPw).trans q1) | (go_at_call 33; refine (contains_none _ _ _ _ _).mono ?_; rintro e w4 ⟨rfl, rfl⟩))
  have e7 : (w3.alloc (.cells #[.string k, .string a] 25)).cell? ⟨N, 7, none⟩ = some (.int .i64 r) := (((hb2.drew.below hB4 hNw).alloc (Nat.lt_of_lt_of_le hNw hB4.size) _).1 7 (by omega)).trans (by rw [h7])
  have eC : (w3.alloc (.cells #[.string k, .string a] 25)).cell? ⟨w.heap.size, 0, none⟩ = some (.pointer (some ⟨N, 0, none⟩)) := ((hbox3.drew.below hB4 hCw).alloc (Nat.lt_of_lt_of_le hCw hB4.size) _).1 0 (by omega)
  have hB5 : Below w.heap.size w (w3.alloc (.cells #[.string k, .string a] 25)) := (hB3.drew.trans (hB4.mono (by simp; omega))).alloc (by have := hB4.size; simp at this; omega) _
  generalize w3.alloc (.cells #[.string k, .string a] 25) = w5 at e7 eC hB5 ⊢
  clear hB4 r0 r1 hP hb2 hbox3 hB3 q0 q1 d0 d1 d58 dC
  go_wp2_with fail
  rw [rounds_succ]
  go_wp2_with fail
  refine wp_loop_rounds 1 ?_
  rw [rounds_succ]
  go_wp2
  · go_ret
    have hr : r < 2 := by assumption
    exact ⟨by unfold minI; rw [if_neg (by omega)]; rfl, hB5⟩
  · go_ret
    have hr : 2 ≤ r := by assumption
    refine ⟨?_, hB5⟩
    have e : minI 2 r = 2 := by unfold minI; split <;> omega
    rw [e]; rfl
end Go.Proofs.Ybulkbpca
