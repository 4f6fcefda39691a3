import Derived.Test.YbulkbpcaGreatPeer
namespace Go.Proofs.YbulkbpcaGreat
open Go.ChangeShapes Go.WideShapes Go.ChangeAt Go.RowKit
set_option linter.unusedVariables false

/-- The cells of a row of rungs, of which the first k are laid: rung i is the peer number z i. -/
def rungC (z : Nat → Int) (k : Nat) : Nat → Value := fun j =>
  if j / 3 < k then (if j % 3 = 0 then .string (pk (z (j / 3))) else if j % 3 = 1 then .string (pa (z (j / 3))) else .string ⟨#[]⟩) else .string ⟨#[]⟩

theorem Ybaz.info66 : (Ybaz.prog.info? 66).map (fun i => (i.zero, i.size, i.bytes)) = some (some (.agg #[.string ⟨#[]⟩, .string ⟨#[]⟩, .string ⟨#[]⟩]), 3, 48) := by kernel_rfl

theorem madeCells_three (v : Value) (n j : Nat) (hj : j < n) : (madeCells #[v, v, v] n)[j]? = some v := by
  simp only [madeCells, Array.getElem?_map]
  rw [Array.getElem?_eq_getElem (by simpa using hj)]
  simp only [Array.getElem_range, Option.map_some]
  have : j % 3 = 0 ∨ j % 3 = 1 ∨ j % 3 = 2 := by omega
  rcases this with h | h | h <;> simp [h]

theorem rungC_step {w : World} {g n k : Nat} {z : Nat → Int} {q : Int} (h : Blk w g (n * 3) (rungC z k)) (hk : k < n) (hq : q = z k) :
    Blk (((w.setCell ⟨g, k * 3, none⟩ (.string (pk q))).setCell ⟨g, k * 3 + 1, none⟩ (.string (pa q))).setCell ⟨g, k * 3 + 2, none⟩ (.string ⟨#[]⟩)) g (n * 3) (rungC z (k + 1)) := by
  subst hq
  refine (((h.set (k * 3) (by omega) _).set (k * 3 + 1) (by omega) _).set (k * 3 + 2) (by omega) _).congr fun j hj => ?_
  unfold upd rungC
  by_cases h2 : j = k * 3 + 2
  · subst h2; rw [if_pos rfl, if_pos (by omega), if_neg (by omega), if_neg (by omega)]
  · rw [if_neg h2]
    by_cases h1 : j = k * 3 + 1
    · subst h1; rw [if_pos rfl, if_pos (by omega), if_neg (by omega), if_pos (by omega), show (k * 3 + 1) / 3 = k from by omega]
    · rw [if_neg h1]
      by_cases h0 : j = k * 3
      · subst h0; rw [if_pos rfl, if_pos (by omega), if_pos (by omega), show (k * 3) / 3 = k from by omega]
      · rw [if_neg h0]
        by_cases hl : j / 3 < k
        · rw [if_pos hl, if_pos (show j / 3 < k + 1 from by omega)]
        · rw [if_neg hl, if_neg (show ¬ j / 3 < k + 1 from by omega)]

set_option maxRecDepth 100000 in
set_option maxHeartbeats 1000000 in
theorem rungs_some (a0 : Option Addr) (len0 cap0 : Nat) (z0 : List Int) (w : World)
    (hz : ∀ j, j < len0 → ∃ b off, a0 = some ⟨b, off, none⟩ ∧ b < w.heap.size ∧ w.cell? ⟨b, off + j, none⟩ = some (.int .u8 (z0.getD j 0)))
    (hzb : ∀ j : Nat, 0 ≤ z0[j]?.getD 0 ∧ z0[j]?.getD 0 ≤ 255) (hl : len0 ≤ 1024) (hl0 : 0 < len0) :
    Calls Ybaz.prog 6 #[.slice a0 len0 cap0] w fun e w' => ∃ g, e = .returned (.slice (some ⟨g, 0, none⟩) len0 len0) ∧ w.heap.size ≤ g ∧
      Blk w' g (len0 * 3) (rungC (fun i => z0.getD i 0) len0) ∧ Below w.heap.size w w' := by
  obtain ⟨i0, hi, hz0, hz1, hz2⟩ := info_parts Ybaz.info66
  have hne : ((len0 : Int) == 0) = false := by rw [beq_eq_false_iff_ne]; omega
  have hb2 : i0.bytes * len0 ≤ 281474976710656 := by rw [hz2]; omega
  have hb3 : len0 ≤ maxLen := by unfold maxLen; omega
  go_enter Ybaz.func6, Ybaz.ntmps6
  go_wp2_with (at_make; refine wpList_make_full _ rfl _ _ 33 rfl w.heap.size 66 i0 _ 3 Ybaz.underlying33 hi hz0 hz1 _ _ _ _ len0 rfl rfl rfl rfl hb2 hb3 (Nat.le_refl _) ?_; intro w1 hown hgrow)
  have hblk : Blk w1 w.heap.size (len0 * 3) (rungC (fun i => z0.getD i 0) 0) := by
    refine ⟨fun j hj => ?_, fun j => hown.frozenAt j⟩
    rw [hown.cellAt j hj, Array.getElem?_toList]
    refine (madeCells_three _ _ _ hj).trans ?_
    simp [rungC]
  have hB1 : Below w.heap.size w w1 := (Below.refl _ _).grown hgrow (Nat.le_refl _) (fun k h => by simp at h)
  clear hown hgrow hb2 hb3 hi hz0 hz1 hz2
  go_loopw [17] (fun i wr => ∃ k : Nat, k ≤ len0 ∧ i = .int .i64 k ∧ Blk wr w.heap.size (len0 * 3) (rungC (fun i => z0.getD i 0) k) ∧ Below w.heap.size w wr) (fun i _ => len0 - (intOf i).toNat)
  case atStart => exact ⟨0, by omega, rfl, hblk, hB1⟩
  case round =>
    clear hblk hB1
    obtain ⟨k, hk, rfl, hb, hB⟩ := hrel
    by_cases hlt : k < len0
    · obtain ⟨b, off, rfl, hbl, hc⟩ := hz k hlt
      obtain ⟨q, hq⟩ : ∃ q, q = z0.getD k 0 := ⟨_, rfl⟩
      have hq0 : 0 ≤ q := by rw [hq]; simpa using (hzb k).1
      have hq1 : q ≤ 255 := by rw [hq]; simpa using (hzb k).2
      have hc2 : wr.cell? ⟨b, off + k, none⟩ = some (.int .u8 q) := by rw [hq]; exact (hB.cell (by exact hbl)).trans hc
      have HQ : Hid (q = z0.getD k 0) := hq
      have hk0 : (0 : Int) ≤ (k : Int) := by omega
      have hk7 : (k : Int) < (len0 : Int) := by omega
      clear hz hc hq hzb
      go_wp2_with fail
      refine (peer_any q hq0 hq1 wr).mono ?_
      rintro e w2 ⟨rfl, hB2⟩
      have hgl : w.heap.size < wr.heap.size := hb.lt (by omega)
      have hb2 := hb.below hB2 hgl
      have c0 := hb2.1 (k * 3) (by omega)
      have c1 := hb2.1 (k * 3 + 1) (by omega)
      have c2 := hb2.1 (k * 3 + 2) (by omega)
      have f0 := hb2.2 (k * 3)
      have f1 := hb2.2 (k * 3 + 1)
      have f2 := hb2.2 (k * 3 + 2)
      go_wp2
      go_roundw
      case rel => exact ⟨k + 1, by omega, by go_num, rungC_step hb2 hlt HQ.out, (((hB.trans (hB2.mono (by omega))).setCell (by simp) _).setCell (by simp) _).setCell (by simp) _⟩
      case measure => simp [intOf]; omega
    · obtain rfl : k = len0 := by omega
      go_wp2
      go_ret
      exact ⟨_, rfl, Nat.le_refl _, hb, hB⟩

/-- The number of rungs that the law lays for a list of len0 bytes, and whom rung i names. -/
def rn (len0 : Nat) : Nat := if len0 = 0 then 1 else len0
def rz (len0 : Nat) (z0 : List Int) : Nat → Int := fun i => if len0 = 0 then 0 else z0.getD i 0

set_option maxRecDepth 100000 in
set_option maxHeartbeats 1000000 in
theorem rungs_none (a0 : Option Addr) (cap0 : Nat) (z0 : List Int) (w : World) :
    Calls Ybaz.prog 6 #[.slice a0 0 cap0] w fun e w' => ∃ g, e = .returned (.slice (some ⟨g, 0, none⟩) 1 1) ∧ w.heap.size ≤ g ∧
      Blk w' g 3 (rungC (fun _ => 0) 1) ∧ Below w.heap.size w w' := by
  go_enter Ybaz.func6, Ybaz.ntmps6
  go_wp2_with fail
  refine (peer_any 0 (by omega) (by omega) w).mono ?_
  rintro e w2 ⟨rfl, hB2⟩
  go_wp2
  go_ret
  refine ⟨_, rfl, hB2.size, ?_, hB2.alloc hB2.size _⟩
  refine (Blk.fresh w2 _ 66).congr fun j hj => ?_
  have hj3 : j < 3 := by simpa using hj
  rcases (show j = 0 ∨ j = 1 ∨ j = 2 from by omega) with rfl | rfl | rfl <;> simp [rungC]

theorem rungs_any (a0 : Option Addr) (len0 cap0 : Nat) (z0 : List Int) (w : World)
    (hz : ∀ j, j < len0 → ∃ b off, a0 = some ⟨b, off, none⟩ ∧ b < w.heap.size ∧ w.cell? ⟨b, off + j, none⟩ = some (.int .u8 (z0.getD j 0)))
    (hzb : ∀ j : Nat, 0 ≤ z0[j]?.getD 0 ∧ z0[j]?.getD 0 ≤ 255) (hl : len0 ≤ 1024) :
    Calls Ybaz.prog 6 #[.slice a0 len0 cap0] w fun e w' => ∃ g, e = .returned (.slice (some ⟨g, 0, none⟩) (rn len0) (rn len0)) ∧ w.heap.size ≤ g ∧
      Blk w' g (rn len0 * 3) (rungC (rz len0 z0) (rn len0)) ∧ Below w.heap.size w w' := by
  by_cases h : len0 = 0
  · subst h
    refine (rungs_none a0 cap0 z0 w).mono ?_
    rintro e w' ⟨g, rfl, h1, h2, h3⟩
    exact ⟨g, rfl, h1, h2, h3⟩
  · refine (rungs_some a0 len0 cap0 z0 w hz hzb hl (by omega)).mono ?_
    rintro e w' ⟨g, rfl, h1, h2, h3⟩
    refine ⟨g, by simp [rn, h], h1, ?_, h3⟩
    have e1 : rn len0 = len0 := by simp [rn, h]
    have e2 : rz len0 z0 = fun i => z0.getD i 0 := by funext i; simp [rz, h]
    rw [e1, e2]; exact h2
end Go.Proofs.YbulkbpcaGreat
