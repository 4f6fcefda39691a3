import Derived.Test.YbulkbpdqWalks
import Derived.Deep.QuietTactic
import Derived.BigQuiet
namespace Go.Proofs.Ybulkbpdq
open Go.ChangeShapes Go.WideShapes Go.ChangeAt Go.RowKit
set_option linter.unusedVariables false

/-- The set of the indexes below n at which p holds, as bits. -/
def maskTo (p : Nat → Bool) : Nat → Nat
  | 0 => 0
  | n + 1 => if p n then maskTo p n ||| 2 ^ n else maskTo p n

/-- The set that the law wants: the indexes whose count is above 0. -/
def wantOf (x : Nat → Int) (n : Nat) : Nat := maskTo (fun j => decide (0 < x j)) n

def Inv (w : World) (C : Nat) (wr : World) : Prop :=
  ∃ x : Nat → Int, ItAt wr w.heap.size x (wantOf x 5 : Nat) ∧ FiveAt wr C x ∧ (∀ j, wr.frozen? ⟨C, j, none⟩ = false) ∧ Below w.heap.size w wr

theorem maskTo_five (p : Nat → Bool) : maskTo p 5 = maskTo (fun j => [p 0, p 1, p 2, p 3, p 4].getD j false) 5 := by
  simp [maskTo]

theorem mask_upd : ∀ (b0 b1 b2 b3 b4 v : Bool) (i : Fin 5),
    (if v then maskTo (fun j => [b0, b1, b2, b3, b4].getD j false) 5 ||| 2 ^ i.val else maskTo (fun j => [b0, b1, b2, b3, b4].getD j false) 5 &&& (255 - 2 ^ i.val)) =
      maskTo (fun j => if j = i.val then v else [b0, b1, b2, b3, b4].getD j false) 5 ∧ maskTo (fun j => [b0, b1, b2, b3, b4].getD j false) 5 < 256 := by decide +kernel

theorem pow_lt2 (i : Nat) (hi : i < 5) : 2 ^ i < 256 := by
  rcases (show i = 0 ∨ i = 1 ∨ i = 2 ∨ i = 3 ∨ i = 4 from by omega) with rfl | rfl | rfl | rfl | rfl <;> decide

theorem want_upd (x : Nat → Int) (i : Nat) (hi : i < 5) (v : Int) :
    heldOf (wantOf x 5 : Nat) i v = ((wantOf (fun j => if j = i then v else x j) 5 : Nat) : Int) := by
  have hm := mask_upd (decide (0 < x 0)) (decide (0 < x 1)) (decide (0 < x 2)) (decide (0 < x 3)) (decide (0 < x 4)) (decide (0 < v)) ⟨i, hi⟩
  have e1 : maskTo (fun j => [decide (0 < x 0), decide (0 < x 1), decide (0 < x 2), decide (0 < x 3), decide (0 < x 4)].getD j false) 5 = wantOf x 5 := by
    unfold wantOf; rw [maskTo_five (fun j => decide (0 < x j))]
  have e2 : wantOf (fun j => if j = i then v else x j) 5 = maskTo (fun j => if j = i then decide (0 < v) else [decide (0 < x 0), decide (0 < x 1), decide (0 < x 2), decide (0 < x 3), decide (0 < x 4)].getD j false) 5 := by
    unfold wantOf
    rcases (show i = 0 ∨ i = 1 ∨ i = 2 ∨ i = 3 ∨ i = 4 from by omega) with rfl | rfl | rfl | rfl | rfl <;> simp [maskTo]
  simp only at hm
  rw [e1] at hm
  rw [e2, ← hm.1]
  unfold heldOf
  by_cases hv : 0 < v
  · rw [if_pos hv, u8_or_nat _ _ hm.2 (pow_lt2 i hi)]; simp [hv]
  · rw [if_neg hv, u8_andNot_nat _ _ hm.2 (pow_lt2 i hi)]; simp [hv]

theorem maskTo_lt (p : Nat → Bool) : ∀ n, maskTo p n < 2 ^ n
  | 0 => by simp [maskTo]
  | n + 1 => by
    have ih := maskTo_lt p n
    have h1 : maskTo p n < 2 ^ (n + 1) := Nat.lt_of_lt_of_le ih (Nat.pow_le_pow_right (by decide) (by omega))
    have h2 : 2 ^ n < 2 ^ (n + 1) := Nat.pow_lt_pow_right (by decide) (by omega)
    unfold maskTo
    split
    · exact Nat.or_lt_two_pow h1 h2
    · exact h1

theorem want_lt (x : Nat → Int) (j : Nat) (hj : j < 5) : wantOf x j < 256 :=
  Nat.lt_trans (maskTo_lt _ j) (pow_lt2 j hj)

theorem want_hit (x : Nat → Int) (j : Nat) (hj : j < 5) (hp : 0 < x j) :
    Value.int .u8 (bits .or .u8 ((wantOf x j : Nat) : Int) (2 ^ j)) = .int .u8 ((wantOf x (j + 1) : Nat) : Int) := by
  have e : (2 : Int) ^ j = ((2 ^ j : Nat) : Int) := by simp
  rw [e, u8_or_nat _ _ (want_lt x j hj) (pow_lt2 j hj)]
  simp [wantOf, maskTo, hp]

theorem want_miss (x : Nat → Int) (j : Nat) (hp : x j ≤ 0) :
    Value.int .u8 ((wantOf x j : Nat) : Int) = .int .u8 ((wantOf x (j + 1) : Nat) : Int) := by
  have : ¬ 0 < x j := by omega
  simp [wantOf, maskTo, this]

theorem inv_start (w : World) : Inv w (w.heap.size + 1)
    ((w.alloc (.cells #[.string ⟨#[]⟩, .slice none 0 0, .int .i32 0, .int .i32 0, .int .i32 0, .int .i32 0, .int .i32 0, .int .u8 0, .pointer none, .int .u8 0, .pointer none, .int .u8 0, .pointer none, .pointer none, .map none, .slice none 0 0, .pointer none] 36)).alloc
      (.cells #[.int .i32 0, .int .i32 0, .int .i32 0, .int .i32 0, .int .i32 0] 21)) := by
  refine ⟨fun _ => 0, ⟨fun j hj => ?_, ?_, fun j => ?_⟩, fun j hj => ?_, fun j => ?_, ((Below.refl _ _).alloc (Nat.le_refl _) _).alloc (by simp) _⟩
  · rw [World.cell?_alloc_past _ _ _ (by simp), World.cell?_alloc_new]
    rcases (show j = 0 ∨ j = 1 ∨ j = 2 ∨ j = 3 ∨ j = 4 from by omega) with rfl | rfl | rfl | rfl | rfl <;> rfl
  · rw [World.cell?_alloc_past _ _ _ (by simp), World.cell?_alloc_new]; rfl
  · rw [World.frozen?_alloc_past _ _ _ (by simp), World.frozen?_alloc_new]
  · rw [World.cell?_alloc_at _ _ _ _ (by simp)]
    rcases (show j = 0 ∨ j = 1 ∨ j = 2 ∨ j = 3 ∨ j = 4 from by omega) with rfl | rfl | rfl | rfl | rfl <;> rfl
  · rw [World.frozen?_alloc_at _ _ _ _ (by simp)]

/-- One step of the script: the model's count is stored, then 'count' is called. -/
theorem count_step (w wr : World) (C : Nat) (ii n : Int) (x : Nat → Int) (h0 : 0 ≤ ii) (h5 : ii < 5) (hC : w.heap.size < C)
    (hit : ItAt wr w.heap.size x (wantOf x 5 : Nat)) (hfive : FiveAt wr C x) (hfz : ∀ j, wr.frozen? ⟨C, j, none⟩ = false) (hB : Below w.heap.size w wr) :
    Calls Yba.prog 5 #[.pointer (some ⟨w.heap.size, 0, none⟩), .int .i64 ii, .int .i32 n] (wr.setCell ⟨C, ii.toNat, none⟩ (.int .i32 (wrap32 (x ii.toNat + n)))) fun e w' => e = .returned (.tuple #[]) ∧ Inv w C w' := by
  have hi : ii.toNat < 5 := by omega
  have hit' : ItAt (wr.setCell ⟨C, ii.toNat, none⟩ (.int .i32 (wrap32 (x ii.toNat + n)))) w.heap.size x (wantOf x 5 : Nat) :=
    hit.block (Below.heap_setCell _ _ _ _ (by simp; omega))
  refine (count_it w.heap.size ii.toNat ii n _ x hi (by omega) _ hit').mono ?_
  rintro e w' ⟨rfl, ha, hoth, hb, hsz⟩
  refine ⟨rfl, _, ha.congr (fun _ _ => rfl) (want_upd x ii.toNat hi _), ?_, fun j => ?_, (hB.setCell (by simp; omega) _).trans hb⟩
  · intro j hj
    rw [World.cell?_of_block (w := wr.setCell ⟨C, ii.toNat, none⟩ (.int .i32 (wrap32 (x ii.toNat + n)))) (hoth C (by omega))]
    by_cases e : j = ii.toNat
    · subst e; rw [World.cell?_setCell_same _ _ _ (hfive _ hj)]; simp
    · rw [World.cell?_setCell_other _ _ _ _ (by intro h; injection h; omega), hfive j hj]; simp [e]
  · rw [World.frozen?_of_block (w := wr.setCell ⟨C, ii.toNat, none⟩ (.int .i32 (wrap32 (x ii.toNat + n)))) (hoth C (by omega)), World.frozen?_setCell]
    exact hfz j

set_option maxHeartbeats 1000000 in
theorem script_walk (a0 : Option Addr) (len0 cap0 : Nat) (z0 : List Int) (w : World)
    (hz : ∀ j, j < len0 → ∃ b off, a0 = some ⟨b, off, none⟩ ∧ b < w.heap.size ∧ w.cell? ⟨b, off + j, none⟩ = some (.int .u8 (z0.getD j 0)))
    (hzb : ∀ j : Nat, 0 ≤ z0[j]?.getD 0 ∧ z0[j]?.getD 0 ≤ 255) (hl : len0 ≤ 1024) :
    Calls Yba.prog 4 #[.slice a0 len0 cap0] w fun e w' => e = .returned (.bool true) ∧ Below w.heap.size w w' := by
  have hmk : ∀ w : World, (Instr.makeSlice 22 (.int .i64 5) (.int .i64 5)).run Yba.prog w = .ok (.slice (some ⟨w.heap.size, 0, none⟩) 5 5) (w.alloc (.cells #[.int .i32 0, .int .i32 0, .int .i32 0, .int .i32 0, .int .i32 0] 21)) := fun _ => by kernel_rfl
  go_enter Yba.func4, Yba.ntmps4
  go_wp2
  go_loopw [23] (fun i wr => ∃ k : Nat, k ≤ len0 ∧ i = .int .i64 k ∧ Inv w (w.heap.size + 1) wr) (fun i _ => len0 - (intOf i).toNat)
  case atStart => exact ⟨0, by omega, rfl, inv_start w⟩
  case round =>
    obtain ⟨k, hk, rfl, x, hit, hfive, hfz, hB⟩ := hrel
    by_cases hlt : k < len0
    · obtain ⟨b, off, rfl, hb, hc⟩ := hz k hlt
      have hk0 : (0 : Int) ≤ (k : Int) := by omega
      have hk7 : (k : Int) < (len0 : Int) := by omega
      obtain ⟨q, hq⟩ : ∃ q, q = z0.getD k 0 := ⟨_, rfl⟩
      have hq0 : 0 ≤ q := by rw [hq]; simpa using (hzb k).1
      have hq1 : q ≤ 255 := by rw [hq]; simpa using (hzb k).2
      have hc2 : wr.cell? ⟨b, off + k, none⟩ = some (.int .u8 q) := by rw [hq]; exact (hB.cell (by exact hb)).trans hc
      have hx := hfive (q / 2 % 5).toNat (by omega)
      have hf := hfz (q / 2 % 5).toNat
      clear hz hc hq hzb
      go_wp2_with (go_at_call 5; refine (count_step w wr _ _ _ x (by omega) (by omega) (by omega) hit hfive hfz hB).mono ?_; rintro e w' ⟨rfl, hI⟩)
      all_goals
        go_roundw
        case rel => exact ⟨k + 1, by omega, by go_num, by assumption⟩
        case measure => simp [intOf]; omega
    · obtain rfl : k = len0 := by omega
      go_wp2
      go_loopw [10, 11] (fun m t wr => ∃ j : Nat, j ≤ 5 ∧ t = .int .i64 j ∧ m = .int .u8 ((wantOf x j : Nat) : Int) ∧ ItAt wr w.heap.size x (wantOf x 5 : Nat) ∧ FiveAt wr (w.heap.size + 1) x ∧ Below w.heap.size w wr) (fun _ t _ => 5 - (intOf t).toNat)
      case atStart => exact ⟨0, by omega, rfl, rfl, hit, hfive, hB⟩
      case round =>
        clear hit hfive hB hz hzb hfz
        obtain ⟨j, hj, rfl, rfl, hit, hfive, hB⟩ := hrel
        by_cases hj5 : j < 5
        · have hj0 : (0 : Int) ≤ (j : Int) := by omega
          have hj6 : (j : Int) < 5 := by omega
          have hx := hit.1 j hj5
          have hy := hfive j hj5
          go_wp2
          go_quiet (fail)
          go_wp2_with (go_at_call 6; refine (mask_any j (by omega) _).mono ?_; rintro e w' ⟨rfl, rfl⟩)
          · have hp : 0 < x j := by assumption
            go_roundw
            case rel => exact ⟨j + 1, by omega, by go_num, want_hit x j hj5 hp, hit, hfive, below_drewN hB _⟩
            case measure => simp [intOf]; omega
          · have hp : x j ≤ 0 := by assumption
            go_roundw
            case rel => exact ⟨j + 1, by omega, by go_num, want_miss x j hp, hit, hfive, below_drewN hB _⟩
            case measure => simp [intOf]; omega
        · obtain rfl : j = 5 := by omega
          have hh := hit.2.1
          go_wp2
          go_ret
          exact ⟨by simp, hB⟩
end Go.Proofs.Ybulkbpdq
