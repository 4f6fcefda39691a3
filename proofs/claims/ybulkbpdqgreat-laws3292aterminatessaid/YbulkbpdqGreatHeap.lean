import Derived.Test.YbulkbpdqGreatOld
import Derived.Test.YbulkbpdqGreatMapF
namespace Go.Proofs.YbulkbpdqGreat
open Go.ChangeShapes Go.WideShapes Go.ChangeAt Go.RowKit
set_option linter.unusedVariables false

/-- What the heap asks of a transaction: a number of nought, and an age. -/
def Tx (w : World) (b : Nat) : Prop := w.cell? ⟨b, 0, none⟩ = some (.int .u64 0) ∧ ∃ x, w.cell? ⟨b, 13, none⟩ = some (.int .u64 x)
/-- Block g is the heap's row: the transactions L, and room for more. -/
structure HQ (w : World) (g cap : Nat) (L : List Nat) : Prop where
  row : ∃ cur, w.heap[g]? = some (.cells cur 34) ∧ cur.size = cap ∧ L.length ≤ cap ∧ cap ≤ maxLen ∧ cur.toList.take L.length = L.map ptr
  tx : ∀ b ∈ L, b ≠ g ∧ Tx w b

theorem Tx.lt {w : World} {b : Nat} (h : Tx w b) : b < w.heap.size := by
  by_cases e : b < w.heap.size
  · exact e
  · have := h.1
    simp [World.cell?, Array.getElem?_eq_none (Nat.le_of_not_lt e)] at this
theorem Tx.block {w w' : World} {b : Nat} (h : Tx w b) (hb : w'.heap[b]? = w.heap[b]?) : Tx w' b :=
  ⟨by rw [World.cell?_of_block (w := w) hb]; exact h.1, by obtain ⟨x, hx⟩ := h.2; exact ⟨x, by rw [World.cell?_of_block (w := w) hb]; exact hx⟩⟩

theorem HQ.lt {w : World} {g cap : Nat} {L : List Nat} (h : HQ w g cap L) : g < w.heap.size := by
  obtain ⟨cur, h1, _⟩ := h.row
  exact (Array.getElem?_eq_some_iff.1 h1).1
theorem HQ.below {w w' : World} {g cap : Nat} {L : List Nat} (h : HQ w g cap L) (hb : Below w.heap.size w w') : HQ w' g cap L := by
  obtain ⟨cur, h1, h2⟩ := h.row
  exact ⟨⟨cur, (hb.block g h.lt).trans h1, h2⟩, fun b hL => ⟨(h.tx b hL).1, (h.tx b hL).2.block (hb.block b (h.tx b hL).2.lt)⟩⟩
theorem HQ.drew {w : World} {g cap : Nat} {L : List Nat} (h : HQ w g cap L) : HQ w.drew g cap L := ⟨h.row, h.tx⟩

theorem HQ.cell {w : World} {g cap : Nat} {L : List Nat} (h : HQ w g cap L) {i b : Nat} (hi : L[i]? = some b) : w.cell? ⟨g, i, none⟩ = some (ptr b) := by
  obtain ⟨cur, h1, h2, h3, h4, h5⟩ := h.row
  have hl := (List.getElem?_eq_some_iff.1 hi).1
  rw [cell_of_row w g i cur 34 (0, 0) h1]
  have : (cur.toList.take L.length)[i]? = some (ptr b) := by rw [h5, List.getElem?_map, hi]; rfl
  rw [List.getElem?_take_of_lt hl] at this
  simpa using this

theorem HQ.frozen {w : World} {g cap : Nat} {L : List Nat} (h : HQ w g cap L) (i : Nat) : w.frozen? ⟨g, i, none⟩ = false := by
  obtain ⟨cur, h1, _⟩ := h.row
  simp [World.frozen?, h1]

set_option maxRecDepth 100000 in
set_option maxHeartbeats 1000000 in
theorem less_any (g cap i j b c : Nat) (L : List Nat) (w : World) (h : HQ w g cap L) (hi : L[i]? = some b) (hj : L[j]? = some c) :
    Calls Ybaz.prog 189 #[.slice (some ⟨g, 0, none⟩) L.length cap, .int .i64 i, .int .i64 j] w fun e w' => (∃ t : Bool, e = .returned (.bool t)) ∧ Below w.heap.size w w' := by
  have ci := h.cell hi
  have cj := h.cell hj
  have tb := (h.tx b (List.mem_of_getElem? hi)).2
  have tc := (h.tx c (List.mem_of_getElem? hj)).2
  obtain ⟨x, hx⟩ := tb.2
  obtain ⟨y, hy⟩ := tc.2
  have hb0 := tb.1
  have hc0 := tc.1
  have hil := (List.getElem?_eq_some_iff.1 hi).1
  have hjl := (List.getElem?_eq_some_iff.1 hj).1
  have i1 : (i : Int) < (L.length : Int) := by omega
  have j1 : (j : Int) < (L.length : Int) := by omega
  have i0 : (0 : Int) ≤ (i : Int) := by omega
  have j0 : (0 : Int) ≤ (j : Int) := by omega
  unfold ptr at ci cj
  go_enter Ybaz.func189, Ybaz.ntmps189
  go_wp2_with fail
  go_region_with (go_at_call 52; refine (older_any b c x y _ (by exact hb0) (by exact hx) (by exact hc0) (by exact hy)).mono ?_; rintro e w2 ⟨rfl, hB⟩)
  all_goals
    go_wp2_with fail
    go_ret
    exact ⟨⟨_, rfl⟩, (Below.refl _ w).drew.trans hB⟩

theorem HQ.set {w : World} {g cap : Nat} {L : List Nat} (h : HQ w g cap L) {i c : Nat} (hi : i < L.length) (hc : c ≠ g ∧ Tx w c) : HQ (w.setCell ⟨g, i, none⟩ (ptr c)) g cap (L.set i c) := by
  obtain ⟨cur, h1, h2, h3, h4, h5⟩ := h.row
  refine ⟨⟨cur.setIfInBounds i (ptr c), ?_, by simpa using h2, by simpa using h3, h4, ?_⟩, fun b hb => ?_⟩
  · simp [World.setCell, Array.getElem?_modify, h1]
  · rw [List.length_set, Array.toList_setIfInBounds, List.take_set, h5, List.map_set]
  · rcases List.mem_or_eq_of_mem_set hb with hb | rfl
    · exact ⟨(h.tx b hb).1, (h.tx b hb).2.block (Below.heap_setCell _ _ _ _ (h.tx b hb).1)⟩
    · exact ⟨hc.1, hc.2.block (Below.heap_setCell _ _ _ _ hc.1)⟩

theorem HQ.swap {w : World} {g cap : Nat} {L : List Nat} (h : HQ w g cap L) {i j b c : Nat} (hi : L[i]? = some b) (hj : L[j]? = some c) :
    HQ ((w.setCell ⟨g, i, none⟩ (ptr c)).setCell ⟨g, j, none⟩ (ptr b)) g cap ((L.set i c).set j b) ∧ Kp (fun k => k = g) w ((w.setCell ⟨g, i, none⟩ (ptr c)).setCell ⟨g, j, none⟩ (ptr b)) ∧ ((L.set i c).set j b).Perm L := by
  have hil := List.getElem?_eq_some_iff.1 hi
  have hjl := List.getElem?_eq_some_iff.1 hj
  have h1 := h.set hil.1 (h.tx c (List.mem_of_getElem? hj))
  have hb := h.tx b (List.mem_of_getElem? hi)
  refine ⟨h1.set (by rw [List.length_set]; exact hjl.1) ⟨hb.1, hb.2.block (Below.heap_setCell _ _ _ _ hb.1)⟩, ((Kp.refl (fun k => k = g) w).setCell (p := ⟨g, i, none⟩) (fun _ => rfl) _).setCell (p := ⟨g, j, none⟩) (fun _ => rfl) _, ?_⟩
  have := List.set_set_perm hil.1 hjl.1
  rw [hil.2, hjl.2] at this
  exact this

set_option maxRecDepth 100000 in
set_option maxHeartbeats 1000000 in
theorem swap_any (g cap i j b c : Nat) (L : List Nat) (w : World) (h : HQ w g cap L) (hi : L[i]? = some b) (hj : L[j]? = some c) :
    Calls Ybaz.prog 190 #[.slice (some ⟨g, 0, none⟩) L.length cap, .int .i64 i, .int .i64 j] w fun e w' => e = .returned (.tuple #[]) ∧ HQ w' g cap ((L.set i c).set j b) ∧ Kp (fun k => k = g) w w' := by
  have ci := h.cell hi
  have cj := h.cell hj
  have hg := h.lt
  have fi := h.frozen i
  have fj := h.frozen j
  have hil := (List.getElem?_eq_some_iff.1 hi).1
  have hjl := (List.getElem?_eq_some_iff.1 hj).1
  have i1 : (i : Int) < (L.length : Int) := by omega
  have j1 : (j : Int) < (L.length : Int) := by omega
  have i0 : (0 : Int) ≤ (i : Int) := by omega
  have j0 : (0 : Int) ≤ (j : Int) := by omega
  obtain ⟨v', cj2⟩ : ∃ v', (w.setCell ⟨g, i, none⟩ (ptr c)).cell? ⟨g, j, none⟩ = some v' := by
    by_cases e : j = i
    · subst e; exact ⟨_, World.cell?_setCell_same _ _ _ ci⟩
    · exact ⟨_, (World.cell?_setCell_other _ _ _ _ (by intro h; injection h; omega)).trans cj⟩
  have HS : Hid _ := h.swap hi hj
  unfold ptr at ci cj cj2 HS
  go_enter Ybaz.func190, Ybaz.ntmps190
  go_wp2_with fail
  go_region
  all_goals
    go_wp2
    go_end0
    exact ⟨rfl, HS.out.1.drew, HS.out.2.1.drew⟩
end Go.Proofs.YbulkbpdqGreat
