import Derived.Test.YbulkbpdqGreatRows
import Derived.WalkKit
import Derived.ProofKit
import Derived.Below
import Derived.RegionTactic
import Derived.ChangeAlike
import Derived.Outline
import Derived.WalkLawsBesides
import Derived.Deep.QuietTactic
import Derived.BigQuiet
namespace Go.Proofs.YbulkbpdqGreat
open Go.ChangeShapes Go.WideShapes Go.ChangeAt Go.RowKit
set_option linter.unusedVariables false

/-- A block of n cells, none of them frozen: cell j holds 'c j'. -/
def Blk (w : World) (N n : Nat) (c : Nat → Value) : Prop :=
  (∀ j, j < n → w.cell? ⟨N, j, none⟩ = some (c j)) ∧ ∀ j, w.frozen? ⟨N, j, none⟩ = false

def upd (c : Nat → Value) (i : Nat) (v : Value) : Nat → Value := fun j => if j = i then v else c j

theorem Blk.set {w : World} {N n : Nat} {c : Nat → Value} (h : Blk w N n c) (i : Nat) (hi : i < n) (v : Value) : Blk (w.setCell ⟨N, i, none⟩ v) N n (upd c i v) := by
  refine ⟨fun j hj => ?_, fun j => ?_⟩
  · by_cases e : j = i
    · subst e; rw [World.cell?_setCell_same _ _ _ (h.1 j hj)]; simp [upd]
    · rw [World.cell?_setCell_other _ _ _ _ (by intro h; injection h; omega), h.1 j hj]; simp [upd, e]
  · rw [World.frozen?_setCell, h.2]

theorem Blk.block {w w' : World} {N n : Nat} {c : Nat → Value} (h : Blk w N n c) (hb : w'.heap[N]? = w.heap[N]?) : Blk w' N n c :=
  ⟨fun j hj => by rw [World.cell?_of_block (w := w) hb]; exact h.1 j hj, fun j => by rw [World.frozen?_of_block (w := w) hb]; exact h.2 j⟩

theorem Blk.setOther {w : World} {N n : Nat} {c : Nat → Value} (h : Blk w N n c) (a : Addr) (ha : N ≠ a.block) (v : Value) : Blk (w.setCell a v) N n c :=
  h.block (Below.heap_setCell _ _ _ _ ha)

theorem Blk.lt {w : World} {N n : Nat} {c : Nat → Value} (h : Blk w N n c) (hn : 0 < n) : N < w.heap.size := by
  have := h.1 0 hn
  by_cases e : N < w.heap.size
  · exact e
  · simp [World.cell?, Array.getElem?_eq_none (Nat.le_of_not_lt e)] at this

theorem Blk.alloc {w : World} {N n : Nat} {c : Nat → Value} (h : Blk w N n c) (hN : N < w.heap.size) (o : Obj) : Blk (w.alloc o) N n c :=
  h.block (Below.heap_alloc _ _ _ hN)

theorem Blk.drew {w : World} {N n : Nat} {c : Nat → Value} (h : Blk w N n c) : Blk w.drew N n c := h
theorem Blk.drewN {w : World} {N n : Nat} {c : Nat → Value} (h : Blk w N n c) (q : Nat) : Blk (w.drewN q) N n c := h
theorem Blk.below {w w' : World} {B N n : Nat} {c : Nat → Value} (h : Blk w N n c) (hb : Below B w w') (hN : N < B) : Blk w' N n c := h.block (hb.block N hN)

theorem Blk.fresh (w : World) (cs : Array Value) (t : TypeId) : Blk (w.alloc (.cells cs t)) w.heap.size cs.size (fun j => cs.getD j undef) := by
  refine ⟨fun j hj => ?_, fun j => ?_⟩
  · rw [World.cell?_alloc_new]; simp [hj]
  · rw [World.frozen?_alloc_new]

theorem Blk.congr {w : World} {N n : Nat} {c d : Nat → Value} (h : Blk w N n c) (e : ∀ j, j < n → c j = d j) : Blk w N n d :=
  ⟨fun j hj => by rw [h.1 j hj, e j hj], h.2⟩


/-- w' is w with new blocks, and with turns in the blocks of S alone. -/
structure Kp (S : Nat → Prop) (w w' : World) : Prop where
  os : w'.os = w.os
  tape : w'.tape = w.tape
  output : w'.output = w.output
  size : w.heap.size ≤ w'.heap.size
  block : ∀ k, k < w.heap.size → ¬ S k → w'.heap[k]? = w.heap[k]?

theorem Kp.refl (S : Nat → Prop) (w : World) : Kp S w w := ⟨rfl, rfl, rfl, Nat.le_refl _, fun _ _ _ => rfl⟩
theorem Kp.trans {S : Nat → Prop} {a b c : World} (h : Kp S a b) (k : Kp S b c) : Kp S a c :=
  ⟨k.os.trans h.os, k.tape.trans h.tape, k.output.trans h.output, Nat.le_trans h.size k.size, fun i hi hs => (k.block i (Nat.lt_of_lt_of_le hi h.size) hs).trans (h.block i hi hs)⟩
theorem Kp.mono {S T : Nat → Prop} {a b : World} (h : Kp S a b) (hst : ∀ k, S k → T k) : Kp T a b :=
  ⟨h.os, h.tape, h.output, h.size, fun i hi hs => h.block i hi (fun x => hs (hst i x))⟩
/-- Turns in blocks that were not there at the start do not count. -/
theorem Kp.narrow {S T : Nat → Prop} {a b : World} (h : Kp S a b) (hst : ∀ k, k < a.heap.size → S k → T k) : Kp T a b :=
  ⟨h.os, h.tape, h.output, h.size, fun i hi hs => h.block i hi (fun x => hs (hst i hi x))⟩
theorem Kp.drew {S : Nat → Prop} {a w : World} (h : Kp S a w) : Kp S a w.drew := ⟨h.os, h.tape, h.output, h.size, h.block⟩
theorem Kp.drewN {S : Nat → Prop} {a w : World} (h : Kp S a w) (n : Nat) : Kp S a (w.drewN n) := ⟨h.os, h.tape, h.output, h.size, h.block⟩
theorem Kp.alloc {S : Nat → Prop} {a w : World} (h : Kp S a w) (o : Obj) : Kp S a (w.alloc o) :=
  ⟨h.os, h.tape, h.output, by have := h.size; simp; omega, fun i hi hs => (Below.heap_alloc w o i (Nat.lt_of_lt_of_le hi h.size)).trans (h.block i hi hs)⟩
theorem Kp.setCell {S : Nat → Prop} {a w : World} (h : Kp S a w) {p : Addr} (hp : p.block < a.heap.size → S p.block) (v : Value) : Kp S a (w.setCell p v) :=
  ⟨h.os, h.tape, h.output, by simpa using h.size, fun i hi hs => (Below.heap_setCell w p v i (fun e => hs (e ▸ hp (e ▸ hi)))).trans (h.block i hi hs)⟩
theorem Kp.of_below {S : Nat → Prop} {w w' : World} (h : Below w.heap.size w w') : Kp S w w' := ⟨h.os, h.tape, h.output, h.size, fun k hk _ => h.block k hk⟩
theorem Kp.then {S : Nat → Prop} {a w w' : World} (h : Kp S a w) (hb : Below w.heap.size w w') : Kp S a w' := h.trans (Kp.of_below hb)
theorem Kp.below {S : Nat → Prop} {w w' : World} {B : Nat} (h : Kp S w w') (hB : B ≤ w.heap.size) (hs : ∀ k, k < B → ¬ S k) : Below B w w' := ⟨h.os, h.tape, h.output, h.size, fun k hk => h.block k (Nat.lt_of_lt_of_le hk hB) (hs k hk)⟩
theorem Kp.grown {S : Nat → Prop} {a w w' : World} {row : Option Nat} (h : Kp S a w) (hg : w.grownBy w' row) (hr : ∀ k, row = some k → k < a.heap.size → S k) : Kp S a w' :=
  ⟨hg.os.trans h.os, hg.tape.trans h.tape, hg.output.trans h.output, Nat.le_trans h.size hg.size, fun i hi hs => (hg.block i (Nat.lt_of_lt_of_le hi h.size) (fun e => hs (hr i e.symm hi))).trans (h.block i hi hs)⟩
theorem Blk.kept {S : Nat → Prop} {w w' : World} {N n : Nat} {c : Nat → Value} (h : Blk w N n c) (hk : Kp S w w') (hN : N < w.heap.size) (hs : ¬ S N) : Blk w' N n c := h.block (hk.block N hN hs)
end Go.Proofs.YbulkbpdqGreat
