import Derived.Test.YbulkbpdqWalks
import Derived.Deep.QuietTactic
import Derived.BigQuiet
namespace Go.Proofs.Ybulkbpdq
open Go.ChangeShapes Go.WideShapes Go.ChangeAt Go.RowKit
set_option linter.unusedVariables false

theorem ret_true {b : Bool} (h : b = true) : Ending.returned (.bool b) = .returned (.bool true) := by rw [h]

theorem or_andNot (h i : Nat) (hh : h < 256) (hi : i < 5) : (h &&& (255 - 2 ^ i)) ||| 2 ^ i = h ||| 2 ^ i := by
  have key : ∀ (a : Fin 256) (b : Fin 5), (a.val &&& (255 - 2 ^ b.val)) ||| 2 ^ b.val = a.val ||| 2 ^ b.val := by decide +kernel
  exact key ⟨h, hh⟩ ⟨i, hi⟩

theorem pow_lt2 (i : Nat) (hi : i < 5) : 2 ^ i < 256 := by
  rcases (show i = 0 ∨ i = 1 ∨ i = 2 ∨ i = 3 ∨ i = 4 from by omega) with rfl | rfl | rfl | rfl | rfl <;> decide

theorem held_pos (h : Int) (i : Nat) (v : Int) (h0 : 0 ≤ h) (h1 : h < 256) (hi : i < 5) (hv : 0 < v) :
    (heldOf h i v == bits .or .u8 (bits .andNot .u8 h (2 ^ i)) (2 ^ i)) = true := by
  obtain ⟨a, rfl⟩ := Int.eq_ofNat_of_zero_le h0
  have ha : a < 256 := by omega
  have hp := pow_lt2 i hi
  have e : (2 : Int) ^ i = ((2 ^ i : Nat) : Int) := by simp
  have hlt : a &&& (255 - 2 ^ i) < 256 := Nat.lt_of_le_of_lt Nat.and_le_left ha
  unfold heldOf
  rw [if_pos hv, e, u8_andNot_nat a _ ha hp, u8_or_nat _ _ hlt hp, u8_or_nat _ _ ha hp, or_andNot a i ha hi]
  simp

theorem held_neg (h : Int) (i : Nat) (v : Int) (hv : v ≤ 0) : (heldOf h i v == bits .andNot .u8 h (2 ^ i)) = true := by
  unfold heldOf
  rw [if_neg (by omega)]
  simp

/-- The numbers that the law lays into the counts. -/
def zz (len : Nat) (z : List Int) (j : Nat) : Int := if j < len then z.getD j 0 else 0

def Inv1 (w : World) (len : Nat) (z : List Int) (k : Nat) (wr : World) : Prop :=
  ItAt wr w.heap.size (fun j => if j < k then zz len z j else 0) 0 ∧ Below w.heap.size w wr ∧ wr.heap.size = w.heap.size + 1

theorem inv1_start (w : World) (len : Nat) (z : List Int) : Inv1 w len z 0
    (w.alloc (.cells #[.string ⟨#[]⟩, .slice none 0 0, .int .i32 0, .int .i32 0, .int .i32 0, .int .i32 0, .int .i32 0, .int .u8 0, .pointer none, .int .u8 0, .pointer none, .int .u8 0, .pointer none, .pointer none, .map none, .slice none 0 0, .pointer none] 36)) := by
  refine ⟨⟨fun j hj => ?_, ?_, fun j => ?_⟩, (Below.refl _ _).alloc (Nat.le_refl _) _, by simp⟩
  · rw [World.cell?_alloc_new]
    rcases (show j = 0 ∨ j = 1 ∨ j = 2 ∨ j = 3 ∨ j = 4 from by omega) with rfl | rfl | rfl | rfl | rfl <;> rfl
  · rw [World.cell?_alloc_new]; rfl
  · rw [World.frozen?_alloc_new]

theorem inv1_hit {w wr : World} {len : Nat} {z : List Int} {k : Nat} (h : Inv1 w len z k wr) (hk : k < 5) (hl : k < len) :
    Inv1 w len z (k + 1) (wr.setCell ⟨w.heap.size, 2 + k, none⟩ (.int .i32 (z[k]?.getD 0))).drew := by
  refine ⟨((h.1.setX k hk _).congr (fun j hj => ?_) rfl).drew, (h.2.1.setCell (Nat.le_refl _) _).drew, by simpa using h.2.2⟩
  by_cases e : j = k
  · subst e; simp [zz, hl]
  · by_cases e2 : j < k
    · simp [e, e2, show j < k + 1 from by omega]
    · simp [e, e2, show ¬ j < k + 1 from by omega]

theorem inv1_miss {w wr : World} {len : Nat} {z : List Int} {k : Nat} (h : Inv1 w len z k wr) (hl : ¬ k < len) : Inv1 w len z (k + 1) wr := by
  refine ⟨h.1.congr (fun j hj => ?_) rfl, h.2⟩
  by_cases e : j = k
  · subst e; simp [zz, hl]
  · by_cases e2 : j < k
    · simp [e2, show j < k + 1 from by omega]
    · simp [e2, show ¬ j < k + 1 from by omega]

theorem after1 {w wr : World} {len : Nat} {z : List Int} (hI : Inv1 w len z 5 wr) (h : Int) :
    ItAt ((wr.setCell ⟨w.heap.size, 7, none⟩ (.int .u8 h)).alloc (.cells #[.int .i32 (zz len z 0), .int .i32 (zz len z 1), .int .i32 (zz len z 2), .int .i32 (zz len z 3), .int .i32 (zz len z 4)] 26)) w.heap.size (zz len z) h ∧
    FiveAt ((wr.setCell ⟨w.heap.size, 7, none⟩ (.int .u8 h)).alloc (.cells #[.int .i32 (zz len z 0), .int .i32 (zz len z 1), .int .i32 (zz len z 2), .int .i32 (zz len z 3), .int .i32 (zz len z 4)] 26)) wr.heap.size (zz len z) ∧
    Below w.heap.size w ((wr.setCell ⟨w.heap.size, 7, none⟩ (.int .u8 h)).alloc (.cells #[.int .i32 (zz len z 0), .int .i32 (zz len z 1), .int .i32 (zz len z 2), .int .i32 (zz len z 3), .int .i32 (zz len z 4)] 26)) := by
  refine ⟨?_, fun j hj => ?_, (hI.2.1.setCell (Nat.le_refl _) _).alloc (by simp [hI.2.2]) _⟩
  · refine (((hI.1.setH h).congr (fun j hj => by simp [hj]) rfl).block ?_)
    rw [Below.heap_alloc _ _ _ (by simp [hI.2.2])]
  · rw [World.cell?_alloc_at _ _ _ _ (by simp)]
    rcases (show j = 0 ∨ j = 1 ∨ j = 2 ∨ j = 3 ∨ j = 4 from by omega) with rfl | rfl | rfl | rfl | rfl <;> rfl

set_option maxHeartbeats 1000000 in
theorem step_walk (a0 : Option Addr) (len0 cap0 : Nat) (z0 : List Int) (a1 : Int) (s : Nat) (a3 : Int) (w : World)
    (hz : ∀ j, j < len0 → ∃ b off, a0 = some ⟨b, off, none⟩ ∧ b < w.heap.size ∧ w.cell? ⟨b, off + j, none⟩ = some (.int .i32 (z0.getD j 0)))
    (hl : len0 ≤ maxLen) (h10 : 0 ≤ a1) (h11 : a1 < 256) (hs : s < 18446744073709551616) :
    Calls Yba.prog 3 #[.slice a0 len0 cap0, .int .u8 a1, .int .u64 s, .int .i32 a3] w fun e w' => e = .returned (.bool true) ∧ Below w.heap.size w w' := by
  unfold maxLen at hl
  go_enter Yba.func3, Yba.ntmps3
  go_wp2
  go_loopw [11] (fun i wr => ∃ k : Nat, k ≤ 5 ∧ i = .int .i64 k ∧ Inv1 w len0 z0 k wr) (fun i _ => 5 - (intOf i).toNat)
  case atStart => exact ⟨0, by omega, rfl, inv1_start w len0 z0⟩
  case round =>
    obtain ⟨k, hk, rfl, hI⟩ := hrel
    by_cases hk5 : k < 5
    · by_cases hlt : k < len0
      · obtain ⟨b, off, rfl, hb, hc⟩ := hz k hlt
        have hk0 : (0 : Int) ≤ (k : Int) := by omega
        have hk6 : (k : Int) < 5 := by omega
        have hk7 : (k : Int) < (len0 : Int) := by omega
        have hc2 : wr.cell? ⟨b, off + k, none⟩ = some (.int .i32 (z0.getD k 0)) := (hI.2.1.cell (by exact hb)).trans hc
        have hx := hI.1.1 k hk5
        have hf := hI.1.2.2 (2 + k)
        go_wp2
        go_region
        go_wp2
        go_roundw
        case rel => exact ⟨k + 1, by omega, by go_num, inv1_hit hI hk5 hlt⟩
        case measure => simp [intOf]; omega
      · go_wp2
        go_roundw
        case rel => exact ⟨k + 1, by omega, by go_num, inv1_miss hI hlt⟩
        case measure => simp [intOf]; omega
    · obtain rfl : k = 5 := by omega
      have c0 := hI.1.1 0 (by omega)
      have c1 := hI.1.1 1 (by omega)
      have c2 := hI.1.1 2 (by omega)
      have c3 := hI.1.1 3 (by omega)
      have c4 := hI.1.1 4 (by omega)
      have c7 := hI.1.2.1
      have f7 := hI.1.2.2 7
      simp only [Nat.reduceAdd, Nat.reduceLT, if_true, Nat.add_zero] at c0 c1 c2 c3 c4
      go_wp2_with fail
      obtain ⟨i, hs5, hi⟩ : ∃ i : Nat, (s : Int) % 5 = (i : Int) ∧ i < 5 := ⟨s % 5, by omega, by omega⟩
      rw [hs5]
      have hcal := after1 hI a1
      refine (count_it w.heap.size i (i : Int) a3 a1 (zz len0 z0) hi rfl _ hcal.1).mono ?_
      rintro e w2 ⟨rfl, hit, hoth, hbel, hsz⟩
      have hfive := hcal.2.1.block (hoth _ (by rw [hI.2.2]; omega))
      have hB := hcal.2.2.trans hbel
      clear hcal hoth hbel hsz c0 c1 c2 c3 c4 c7 f7 hs5 hz
      obtain ⟨C, hC⟩ : ∃ C, C = wr.heap.size := ⟨_, rfl⟩
      rw [← hC] at hfive ⊢
      clear hI hC
      go_wp2_with fail
      go_loopw [14] (fun t wr => ∃ k : Nat, k ≤ 5 ∧ t = .int .i64 k ∧ ItAt wr w.heap.size (fun j => if j = i then wrap32 (zz len0 z0 i + a3) else zz len0 z0 j) (heldOf a1 i (wrap32 (zz len0 z0 i + a3))) ∧ FiveAt wr C (zz len0 z0) ∧ Below w.heap.size w wr) (fun t _ => 5 - (intOf t).toNat)
      case atStart => exact ⟨0, by omega, rfl, hit, hfive, hB⟩
      case round =>
        clear hit hfive hB
        obtain ⟨k, hk, rfl, hit, hfive, hB⟩ := hrel
        by_cases hk5 : k < 5
        · have hk0 : (0 : Int) ≤ (k : Int) := by omega
          have hk6 : (k : Int) < 5 := by omega
          have hx := hit.1 k hk5
          have hy := hfive k hk5
          by_cases hki : k = i
          · subst hki
            simp only [if_true] at hx
            go_wp2
            go_quiet (fail)
            go_wp2
            go_roundw
            case rel => exact ⟨k + 1, by omega, by go_num, hit, hfive, below_drewN hB _⟩
            case measure => simp [intOf]; omega
          · have hki2 : ((k : Int) == (i : Int)) = false := by rw [beq_eq_false_iff_ne]; omega
            simp only [if_neg hki] at hx
            go_wp2
            go_quiet (fail)
            go_wp2
            go_roundw
            case rel => exact ⟨k + 1, by omega, by go_num, hit, hfive, below_drewN hB _⟩
            case measure => simp [intOf]; omega
        · obtain rfl : k = 5 := by omega
          have hi0 : (0 : Int) ≤ (i : Int) := by omega
          have hi6 : (i : Int) < 5 := by omega
          have hx := hfive i hi
          have hh := hit.2.1
          go_wp2_with (go_at_call 6; refine (mask_any i (by omega) _).mono ?_; rintro e w' ⟨rfl, rfl⟩)
          · have hp : 0 < wrap32 (zz len0 z0 i + a3) := by assumption
            go_ret
            exact ⟨ret_true (held_pos a1 i _ h10 h11 hi hp), hB⟩
          · have hp : wrap32 (zz len0 z0 i + a3) ≤ 0 := by assumption
            go_ret
            exact ⟨ret_true (held_neg a1 i _ hp), hB⟩
end Go.Proofs.Ybulkbpdq
