import Derived.Test.YbulkbpcaGreatTick3
import Derived.Deep.RegionLaw
import Derived.Deep.DeepCutAuto
import Derived.Deep.AppendLies
import Derived.Deep.WholeRow
namespace Go.Proofs.YbulkbpcaGreat
open Go.ChangeShapes Go.WideShapes Go.ChangeAt Go.RowKit
set_option linter.unusedVariables false

/-- The n cells from an address on, if all of them are there. -/
def rowL (w : World) (a : Addr) (n : Nat) : Option (List Value) := (List.range n).mapM (fun j => w.cell? (a.add j))

theorem rowL_some {w : World} {a : Addr} {cs : List Value} (h : ∀ j v, cs[j]? = some v → w.cell? (a.add j) = some v) : rowL w a cs.length = some cs := by
  unfold rowL
  have key : ∀ (l : List Nat), (∀ j ∈ l, j < cs.length) → l.mapM (fun j => w.cell? (a.add j)) = some (l.map fun j => cs.getD j undef) := by
    intro l hl
    induction l with
    | nil => rfl
    | cons x l ih =>
      have hx := hl x (by simp)
      rw [List.mapM_cons, h x (cs.getD x undef) (by simp [List.getElem?_eq_getElem hx]), ih (fun j hj => hl j (by simp [hj]))]
      rfl
  rw [key _ (fun j hj => by simpa using hj)]
  congr 1
  apply List.ext_getElem
  · simp
  · intro i h1 h2
    simp [List.getElem?_eq_getElem h2]

theorem rowL_get {w : World} {a : Addr} {n : Nat} {cs : List Value} (h : rowL w a n = some cs) : cs.length = n ∧ ∀ j v, cs[j]? = some v → w.cell? (a.add j) = some v := by
  unfold rowL at h
  have key : ∀ (l : List Nat) (cs : List Value), l.mapM (fun j => w.cell? (a.add j)) = some cs → cs.length = l.length ∧ ∀ (j : Nat) (v : Value), cs[j]? = some v → ∃ x : Nat, l[j]? = some x ∧ w.cell? (a.add x) = some v := by
    intro l
    induction l with
    | nil => intro cs h; simp at h; subst h; simp
    | cons x l ih =>
      intro cs h
      rw [List.mapM_cons] at h
      cases hx : w.cell? (a.add x) with
      | none => simp [hx] at h
      | some y =>
        cases hr : l.mapM (fun j => w.cell? (a.add j)) with
        | none => simp [hx, hr] at h
        | some ys =>
          simp [hx, hr] at h
          subst h
          obtain ⟨h1, h2⟩ := ih ys hr
          refine ⟨by simp [h1], fun j v hv => ?_⟩
          cases j with
          | zero => simp at hv; subst hv; exact ⟨x, by simp, hx⟩
          | succ j => simp at hv; obtain ⟨z, hz1, hz2⟩ := h2 j v hv; exact ⟨z, by simpa using hz1, hz2⟩
  obtain ⟨h1, h2⟩ := key _ _ h
  refine ⟨by simpa using h1, fun j v hv => ?_⟩
  obtain ⟨x, hx1, hx2⟩ := h2 j v hv
  have hj : j < n := by
    have := (List.getElem?_eq_some_iff.1 hx1).1
    simpa using this
  simp [hj] at hx1
  subst hx1
  exact hx2

theorem rowL_drew (w : World) (a : Addr) (n : Nat) : rowL w.drew a n = rowL w a n := rfl
theorem rowL_drewN (w : World) (a : Addr) (n q : Nat) : rowL (w.drewN q) a n = rowL w a n := rfl
theorem rowL_of_block {w w' : World} {a : Addr} {n : Nat} (h : w'.heap[a.block]? = w.heap[a.block]?) : rowL w' a n = rowL w a n := by
  unfold rowL
  have : (fun j => w'.cell? (a.add j)) = fun j => w.cell? (a.add j) := by
    funext j
    have hb : (a.add j).block = a.block := by unfold Addr.add; split <;> rfl
    exact World.cell?_of_block (w := w) (by rw [hb]; exact h)
  rw [this]
theorem rowL_alloc (w : World) (o : Obj) (a : Addr) (n : Nat) (h : a.block < w.heap.size) : rowL (w.alloc o) a n = rowL w a n := rowL_of_block (Below.heap_alloc w o a.block h)
theorem rowL_setCell (w : World) (p : Addr) (v : Value) (a : Addr) (n : Nat) (h : a.block ≠ p.block) : rowL (w.setCell p v) a n = rowL w a n := rowL_of_block (Below.heap_setCell w p v a.block h)

theorem rowL_blk {w : World} {B n : Nat} {c : Nat → Value} (h : Blk w B n c) : rowL w ⟨B, 0, none⟩ n = some ((List.range n).map c) := by
  have hl : ((List.range n).map c).length = n := by simp
  have := rowL_some (w := w) (a := ⟨B, 0, none⟩) (cs := (List.range n).map c) (fun j v hv => by
    have hj : j < n := by
      have := (List.getElem?_eq_some_iff.1 hv).1
      simpa using this
    simp [hj] at hv
    subst hv
    have hadd : (⟨B, 0, none⟩ : Addr).add j = ⟨B, j, none⟩ := by unfold Addr.add; split <;> simp_all
    rw [hadd]; exact h.1 j hj)
  rwa [hl] at this

/-- A message's cells, as a function of the offset; the value. -/
def mA (c : Nat → Value) : Array Value := #[c 0, c 1, c 2, c 3, c 4, c 5, c 6, c 7, c 8, c 9, c 10, c 11, c 12, c 13, c 14, c 15, c 16, c 17, c 18, c 19, c 20, c 21, c 22]
def mL (c : Nat → Value) : List Value := [c 0, c 1, c 2, c 3, c 4, c 5, c 6, c 7, c 8, c 9, c 10, c 11, c 12, c 13, c 14, c 15, c 16, c 17, c 18, c 19, c 20, c 21, c 22]

def loadMsgAt (x : Value) : Sem Value := Instr.loadAt 72 x
theorem load_msg0 (x : Value) : Instr.loadAt 72 x = loadMsgAt x := rfl
def storeMsgAt (x v : Value) : Sem Unit := Instr.storeAt 72 x v
theorem store_msg0 (x v : Value) : Instr.storeAt 72 x v = storeMsgAt x v := rfl

theorem msg_rowL {w : World} {M : Nat} {c : Nat → Value} (h : Blk w M 23 c) : rowL w ⟨M, 0, none⟩ 23 = some (mL c) := by
  rw [rowL_blk h]; rfl

theorem msg_cells (c : Nat → Value) : (mL c).toArray = mA c := rfl

theorem load_msg (a : Addr) (w : World) (h : (rowL w a 23).isSome = true) : Sem.run Ybaz.prog (loadMsgAt (.pointer (some a))) w = .ok (.agg ((rowL w a 23).getD []).toArray) w := by
  obtain ⟨cs, hcs⟩ := Option.isSome_iff_exists.1 h
  obtain ⟨hl, hc⟩ := rowL_get hcs
  rw [hcs]
  simp only [loadMsgAt, Instr.loadAt, Instr.sureAddr, loadVar, Sem.run_bind, Sem.run_pure, Result.andThen_ok, Ybaz.isAgg72, Ybaz.sizeOf72, if_true, Option.getD_some]
  have := run_loadCells_list (P := Ybaz.prog) w a cs hc
  rw [hl] at this
  rw [this]
  simp

theorem msg_fresh (w : World) (c : Nat → Value) (t : TypeId) : Blk (w.alloc (.cells (mA c) t)) w.heap.size 23 c :=
  (Blk.fresh w (mA c) t).congr fun j hj => by
    rcases (show j = 0 ∨ j = 1 ∨ j = 2 ∨ j = 3 ∨ j = 4 ∨ j = 5 ∨ j = 6 ∨ j = 7 ∨ j = 8 ∨ j = 9 ∨ j = 10 ∨ j = 11 ∨ j = 12 ∨ j = 13 ∨ j = 14 ∨ j = 15 ∨ j = 16 ∨ j = 17 ∨ j = 18 ∨ j = 19 ∨ j = 20 ∨ j = 21 ∨ j = 22 from by simp [mA] at hj; omega) with rfl | rfl | rfl | rfl | rfl | rfl | rfl | rfl | rfl | rfl | rfl | rfl | rfl | rfl | rfl | rfl | rfl | rfl | rfl | rfl | rfl | rfl | rfl <;> rfl

/-- What was sent: a peer, and a message. -/
def sL (k a : ByteArray) (c : Nat → Value) : List Value := [.string k, .string a, c 0, c 1, c 2, c 3, c 4, c 5, c 6, c 7, c 8, c 9, c 10, c 11, c 12, c 13, c 14, c 15, c 16, c 17, c 18, c 19, c 20, c 21, c 22]
def sA (k a : ByteArray) (c : Nat → Value) : Array Value := (sL k a c).toArray

def buildSentAt (ps : Array (Nat × Value)) : Sem Value := Instr.build 76 ps
theorem build_sent0 (ps : Array (Nat × Value)) : Instr.build 76 ps = buildSentAt ps := rfl
def buildSentSl (n : Nat) (ps : Array (Nat × Value)) : Sem Value := Instr.buildSlice 25 n ps
theorem build_sentSl0 (n : Nat) (ps : Array (Nat × Value)) : Instr.buildSlice 25 n ps = buildSentSl n ps := rfl

theorem build_sent (k a : ByteArray) (c : Nat → Value) (w : World) : Sem.run Ybaz.prog (buildSentAt #[(0, .agg #[.string k, .string a]), (1, .agg (mA c))]) w = .ok (.agg (sA k a c)) w := by kernel_rfl
theorem build_sentSl (k a : ByteArray) (c : Nat → Value) (w : World) : Sem.run Ybaz.prog (buildSentSl 1 #[(0, .agg (sA k a c))]) w = .ok (.slice (some ⟨w.heap.size, 0, none⟩) 1 1) (w.alloc (.cells (sA k a c) 76)) := by kernel_rfl

theorem Ybaz.infoSent : (Ybaz.prog.info? 76).map (fun i => (i.size, i.bytes)) = some (25, 304) := by kernel_rfl
theorem Ybaz.infoByte : (Ybaz.prog.info? 5).map (fun i => (i.zero, i.size, i.bytes)) = some (some (.int .u8 0), 1, 1) := by kernel_rfl
theorem Ybaz.infoDur : (Ybaz.prog.info? 77).map (fun i => (i.zero, i.size, i.bytes)) = some (some (.int .i64 0), 1, 8) := by kernel_rfl
end Go.Proofs.YbulkbpcaGreat
