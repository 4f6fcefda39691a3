import Derived.Test.YbulkbpcaGreatRows
import Derived.WalkKit
import Derived.ProofKit
import Derived.Below
import Derived.RegionTactic
import Derived.ChangeAlike
import Derived.Outline
import Derived.WalkLawsBesides
import Derived.Deep.QuietTactic
import Derived.BigQuiet
namespace Go.Proofs.YbulkbpcaGreat
open Go.ChangeShapes Go.WideShapes Go.ChangeAt Go.RowKit
set_option linter.unusedVariables false

/-- A block of n cells, none of them frozen: cell j holds 'c j'. -/
def Blk (w : World) (N n : Nat) (c : Nat → Value) : Prop :=
  (∀ j, j < n → w.cell? ⟨N, j, none⟩ = some (c j)) ∧ ∀ j, w.frozen? ⟨N, j, none⟩ = false

def upd (c : Nat → Value) (i : Nat) (v : Value) : Nat → Value := fun j => if j = i then v else c j

theorem Blk.set {w : World} {N n : Nat} {c : Nat → Value} (h : Blk w N n c) (i : Nat) (hi : i < n) (v : Value) : Blk (w.setCell ⟨N, i, none⟩ v) N n (upd c i v) := by
  refine ⟨fun j hj => ?_, fun j => ?_⟩
  · by_cases e : j = i
    · subst e; rw [World.cell?_setCell_same _ _ _ (h.1 j hj)]; simp [upd]
    · rw [World.cell?_setCell_other _ _ _ _ (by intro h; injection h; omega), h.1 j hj]; simp [upd, e]
  · rw [World.frozen?_setCell, h.2]

theorem Blk.block {w w' : World} {N n : Nat} {c : Nat → Value} (h : Blk w N n c) (hb : w'.heap[N]? = w.heap[N]?) : Blk w' N n c :=
  ⟨fun j hj => by rw [World.cell?_of_block (w := w) hb]; exact h.1 j hj, fun j => by rw [World.frozen?_of_block (w := w) hb]; exact h.2 j⟩

theorem Blk.setOther {w : World} {N n : Nat} {c : Nat → Value} (h : Blk w N n c) (a : Addr) (ha : N ≠ a.block) (v : Value) : Blk (w.setCell a v) N n c :=
  h.block (Below.heap_setCell _ _ _ _ ha)

theorem Blk.lt {w : World} {N n : Nat} {c : Nat → Value} (h : Blk w N n c) (hn : 0 < n) : N < w.heap.size := by
  have := h.1 0 hn
  by_cases e : N < w.heap.size
  · exact e
  · simp [World.cell?, Array.getElem?_eq_none (Nat.le_of_not_lt e)] at this

theorem Blk.alloc {w : World} {N n : Nat} {c : Nat → Value} (h : Blk w N n c) (hN : N < w.heap.size) (o : Obj) : Blk (w.alloc o) N n c :=
  h.block (Below.heap_alloc _ _ _ hN)

theorem Blk.drew {w : World} {N n : Nat} {c : Nat → Value} (h : Blk w N n c) : Blk w.drew N n c := h
theorem Blk.drewN {w : World} {N n : Nat} {c : Nat → Value} (h : Blk w N n c) (q : Nat) : Blk (w.drewN q) N n c := h
theorem Blk.below {w w' : World} {B N n : Nat} {c : Nat → Value} (h : Blk w N n c) (hb : Below B w w') (hN : N < B) : Blk w' N n c := h.block (hb.block N hN)

theorem Blk.fresh (w : World) (cs : Array Value) (t : TypeId) : Blk (w.alloc (.cells cs t)) w.heap.size cs.size (fun j => cs.getD j undef) := by
  refine ⟨fun j hj => ?_, fun j => ?_⟩
  · rw [World.cell?_alloc_new]; simp [hj]
  · rw [World.frozen?_alloc_new]

theorem Blk.congr {w : World} {N n : Nat} {c d : Nat → Value} (h : Blk w N n c) (e : ∀ j, j < n → c j = d j) : Blk w N n d :=
  ⟨fun j hj => by rw [h.1 j hj, e j hj], h.2⟩

end Go.Proofs.YbulkbpcaGreat
