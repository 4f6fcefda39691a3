import Derived.Test.YbulkbpdqRows
import Derived.WalkKit
import Derived.ProofKit
import Derived.Below
import Derived.RegionTactic
import Derived.ChangeAlike
import Derived.Outline
import Derived.WalkLawsBesides
import Derived.Laws.BitsAllLaws
namespace Go.Proofs.Ybulkbpdq
open Go.ChangeShapes Go.WideShapes Go.ChangeAt Go.RowKit

theorem pow_mod (j i : Nat) (h : j < i) (hi : i < 8) : (2 : Int) ^ j * 2 % 256 = ((2 ^ (j + 1) : Nat) : Int) := by
  rcases (show j = 0 ∨ j = 1 ∨ j = 2 ∨ j = 3 ∨ j = 4 ∨ j = 5 ∨ j = 6 from by omega) with rfl | rfl | rfl | rfl | rfl | rfl | rfl <;> rfl

/-- The mask of bit i, i below 8. -/
theorem mask_any (i : Nat) (hi : i < 8) (w : World) :
    Calls Yba.prog 6 #[.int .i64 i] w fun e w' => e = .returned (.int .u8 ((2 ^ i : Nat) : Int)) ∧ w' = w := by
  go_enter Yba.func6, Yba.ntmps6
  go_wp2
  go_loop [3, 4] (fun m k => ∃ j : Nat, j ≤ i ∧ k = .int .i64 j ∧ m = .int .u8 ((2 ^ j : Nat) : Int)) (fun _ k => i - (intOf k).toNat)
  case atStart => exact ⟨0, Nat.zero_le _, rfl, rfl⟩
  case round =>
    obtain ⟨j, hj, rfl, rfl⟩ := hrel
    by_cases hlt : j < i
    · go_wp2
      go_round
      case rel => exact ⟨j + 1, by omega, by go_num, by rw [pow_mod j i hlt hi]⟩
      case measure => simp [intOf]; omega
    · obtain rfl : j = i := by omega
      go_wp2
      go_ret
      exact ⟨rfl, rfl⟩

/-- What 'count' makes of the set of the modes held. -/
def heldOf (h : Int) (i : Nat) (v : Int) : Int := if 0 < v then bits .or .u8 h ((2 ^ i : Nat) : Int) else bits .andNot .u8 h ((2 ^ i : Nat) : Int)

theorem pow_lt (i : Nat) (hi : i < 5) : (2 : Int) ^ i % 256 = ((2 ^ i : Nat) : Int) := by
  rcases (show i = 0 ∨ i = 1 ∨ i = 2 ∨ i = 3 ∨ i = 4 from by omega) with rfl | rfl | rfl | rfl | rfl <;> rfl

theorem count_any (B i : Nat) (x n h : Int) (hi : i < 5) (w : World) (hx : w.cell? ⟨B, 2 + i, none⟩ = some (.int .i32 x)) (hh : w.cell? ⟨B, 7, none⟩ = some (.int .u8 h))
    (fx : w.frozen? ⟨B, 2 + i, none⟩ = false) (fh : w.frozen? ⟨B, 7, none⟩ = false) :
    Calls Yba.prog 5 #[.pointer (some ⟨B, 0, none⟩), .int .i64 i, .int .i32 n] w fun e w' => e = .returned (.tuple #[]) ∧
      w' = ((w.setCell ⟨B, 2 + i, none⟩ (.int .i32 (wrap32 (x + n)))).setCell ⟨B, 7, none⟩ (.int .u8 (heldOf h i (wrap32 (x + n))))).drew.drew := by
  have h0 : (0 : Int) ≤ (i : Int) := by omega
  have h5 : (i : Int) < 5 := by omega
  have hp := pow_lt i hi
  by_cases hpos : 0 < wrap32 (x + n)
  · have HD : Hid (heldOf h i (wrap32 (x + n)) = bits .or .u8 h ((2 : Int) ^ i % 256)) := by unfold heldOf; rw [if_pos hpos, hp]; rfl
    clear hp
    go_enter Yba.func5, Yba.ntmps5
    go_wp2
    go_region
    go_wp2
    go_region
    all_goals go_end0
    all_goals rw [HD.out]
    all_goals exact ⟨rfl, rfl⟩
  · have HD : Hid (heldOf h i (wrap32 (x + n)) = bits .andNot .u8 h ((2 : Int) ^ i % 256)) := by unfold heldOf; rw [if_neg hpos, hp]; rfl
    clear hp
    go_enter Yba.func5, Yba.ntmps5
    go_wp2
    go_region
    go_wp2
    go_region
    all_goals go_end0
    all_goals rw [HD.out]
    all_goals exact ⟨rfl, rfl⟩

/-- The item at block B: its five counts and the set of the modes held. -/
def ItAt (w : World) (B : Nat) (x : Nat → Int) (h : Int) : Prop :=
  (∀ j, j < 5 → w.cell? ⟨B, 2 + j, none⟩ = some (.int .i32 (x j))) ∧ w.cell? ⟨B, 7, none⟩ = some (.int .u8 h) ∧ ∀ j, w.frozen? ⟨B, j, none⟩ = false

theorem ItAt.congr {w : World} {B : Nat} {x y : Nat → Int} {h g : Int} (a : ItAt w B x h) (hxy : ∀ j, j < 5 → x j = y j) (hg : h = g) : ItAt w B y g :=
  ⟨fun j hj => by rw [a.1 j hj, hxy j hj], by rw [a.2.1, hg], a.2.2⟩

theorem ItAt.setX {w : World} {B : Nat} {x : Nat → Int} {h : Int} (a : ItAt w B x h) (i : Nat) (hi : i < 5) (v : Int) :
    ItAt (w.setCell ⟨B, 2 + i, none⟩ (.int .i32 v)) B (fun j => if j = i then v else x j) h := by
  refine ⟨fun j hj => ?_, ?_, fun j => ?_⟩
  · by_cases e : j = i
    · subst e; rw [World.cell?_setCell_same _ _ _ (a.1 j hj)]; simp
    · rw [World.cell?_setCell_other _ _ _ _ (by intro h; injection h; omega), a.1 j hj]; simp [e]
  · rw [World.cell?_setCell_other _ _ _ _ (by intro h; injection h; omega), a.2.1]
  · rw [World.frozen?_setCell, a.2.2]

theorem ItAt.setH {w : World} {B : Nat} {x : Nat → Int} {h : Int} (a : ItAt w B x h) (v : Int) :
    ItAt (w.setCell ⟨B, 7, none⟩ (.int .u8 v)) B x v := by
  refine ⟨fun j hj => ?_, ?_, fun j => ?_⟩
  · rw [World.cell?_setCell_other _ _ _ _ (by intro h; injection h; omega), a.1 j hj]
  · rw [World.cell?_setCell_same _ _ _ a.2.1]
  · rw [World.frozen?_setCell, a.2.2]

theorem ItAt.drew {w : World} {B : Nat} {x : Nat → Int} {h : Int} (a : ItAt w B x h) : ItAt w.drew B x h := a

theorem cell_lt {w : World} {b o : Nat} {v : Value} (h : w.cell? ⟨b, o, none⟩ = some v) : b < w.heap.size := by
  by_cases e : b < w.heap.size
  · exact e
  · simp [World.cell?, Array.getElem?_eq_none (Nat.le_of_not_lt e)] at h

theorem ItAt.block {w w' : World} {B : Nat} {x : Nat → Int} {h : Int} (a : ItAt w B x h) (hb : w'.heap[B]? = w.heap[B]?) : ItAt w' B x h :=
  ⟨fun j hj => by rw [World.cell?_of_block (w := w) hb]; exact a.1 j hj, by rw [World.cell?_of_block (w := w) hb]; exact a.2.1, fun j => by rw [World.frozen?_of_block (w := w) hb]; exact a.2.2 j⟩

/-- 'count' over the item whole. -/
theorem count_it (B i : Nat) (ii n h : Int) (x : Nat → Int) (hi : i < 5) (hii : ii = (i : Int)) (w : World) (a : ItAt w B x h) :
    Calls Yba.prog 5 #[.pointer (some ⟨B, 0, none⟩), .int .i64 ii, .int .i32 n] w fun e w' => e = .returned (.tuple #[]) ∧
      ItAt w' B (fun j => if j = i then wrap32 (x i + n) else x j) (heldOf h i (wrap32 (x i + n))) ∧ (∀ b, b ≠ B → w'.heap[b]? = w.heap[b]?) ∧ Below B w w' ∧ w'.heap.size = w.heap.size := by
  subst hii
  refine (count_any B i (x i) n h hi w (a.1 i hi) a.2.1 (a.2.2 _) (a.2.2 _)).mono ?_
  rintro e w' ⟨rfl, rfl⟩
  refine ⟨rfl, ((a.setX i hi _).setH _).drew.drew, fun b hb => ?_, ?_, by simp⟩
  · show ((w.setCell _ _).setCell _ _).heap[b]? = _
    rw [Below.heap_setCell _ _ _ _ hb, Below.heap_setCell _ _ _ _ hb]
  · exact ((((Below.refl B w).setCell (p := ⟨B, 2 + i, none⟩) (Nat.le_refl B) _).setCell (p := ⟨B, 7, none⟩) (Nat.le_refl B) _).drew).drew

/-- Five numbers from the head of block b on. -/
def FiveAt (w : World) (b : Nat) (x : Nat → Int) : Prop := ∀ j, j < 5 → w.cell? ⟨b, j, none⟩ = some (.int .i32 (x j))

theorem FiveAt.block {w w' : World} {b : Nat} {x : Nat → Int} (a : FiveAt w b x) (hb : w'.heap[b]? = w.heap[b]?) : FiveAt w' b x :=
  fun j hj => by rw [World.cell?_of_block (w := w) hb]; exact a j hj
end Go.Proofs.Ybulkbpdq
