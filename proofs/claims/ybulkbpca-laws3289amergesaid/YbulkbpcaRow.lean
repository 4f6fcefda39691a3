import Derived.Test.YbulkbpcaLink
import Derived.Deep.RegionLaw
import Derived.Deep.DeepCutAuto
namespace Go.Proofs.Ybulkbpca
open Go.ChangeShapes Go.WideShapes Go.ChangeAt Go.RowKit
set_option linter.unusedVariables false

/-- The n cells from an address on, if all of them are there. -/
def rowL (w : World) (a : Addr) (n : Nat) : Option (List Value) := (List.range n).mapM (fun j => w.cell? (a.add j))

theorem rowL_some {w : World} {a : Addr} {cs : List Value} (h : ∀ j v, cs[j]? = some v → w.cell? (a.add j) = some v) : rowL w a cs.length = some cs := by
  unfold rowL
  have key : ∀ (l : List Nat), (∀ j ∈ l, j < cs.length) → l.mapM (fun j => w.cell? (a.add j)) = some (l.map fun j => cs.getD j undef) := by
    intro l hl
    induction l with
    | nil => rfl
    | cons x l ih =>
      have hx := hl x (by simp)
      rw [List.mapM_cons, h x (cs.getD x undef) (by simp [List.getElem?_eq_getElem hx]), ih (fun j hj => hl j (by simp [hj]))]
      rfl
  rw [key _ (fun j hj => by simpa using hj)]
  congr 1
  apply List.ext_getElem
  · simp
  · intro i h1 h2
    simp [List.getElem?_eq_getElem h2]

theorem rowL_get {w : World} {a : Addr} {n : Nat} {cs : List Value} (h : rowL w a n = some cs) : cs.length = n ∧ ∀ j v, cs[j]? = some v → w.cell? (a.add j) = some v := by
  unfold rowL at h
  have key : ∀ (l : List Nat) (cs : List Value), l.mapM (fun j => w.cell? (a.add j)) = some cs → cs.length = l.length ∧ ∀ (j : Nat) (v : Value), cs[j]? = some v → ∃ x : Nat, l[j]? = some x ∧ w.cell? (a.add x) = some v := by
    intro l
    induction l with
    | nil => intro cs h; simp at h; subst h; simp
    | cons x l ih =>
      intro cs h
      rw [List.mapM_cons] at h
      cases hx : w.cell? (a.add x) with
      | none => simp [hx] at h
      | some y =>
        cases hr : l.mapM (fun j => w.cell? (a.add j)) with
        | none => simp [hx, hr] at h
        | some ys =>
          simp [hx, hr] at h
          subst h
          obtain ⟨h1, h2⟩ := ih ys hr
          refine ⟨by simp [h1], fun j v hv => ?_⟩
          cases j with
          | zero => simp at hv; subst hv; exact ⟨x, by simp, hx⟩
          | succ j => simp at hv; obtain ⟨z, hz1, hz2⟩ := h2 j v hv; exact ⟨z, by simpa using hz1, hz2⟩
  obtain ⟨h1, h2⟩ := key _ _ h
  refine ⟨by simpa using h1, fun j v hv => ?_⟩
  obtain ⟨x, hx1, hx2⟩ := h2 j v hv
  have hj : j < n := by
    have := (List.getElem?_eq_some_iff.1 hx1).1
    simpa using this
  simp [hj] at hx1
  subst hx1
  exact hx2

theorem rowL_drew (w : World) (a : Addr) (n : Nat) : rowL w.drew a n = rowL w a n := rfl
theorem rowL_drewN (w : World) (a : Addr) (n q : Nat) : rowL (w.drewN q) a n = rowL w a n := rfl
theorem rowL_of_block {w w' : World} {a : Addr} {n : Nat} (h : w'.heap[a.block]? = w.heap[a.block]?) : rowL w' a n = rowL w a n := by
  unfold rowL
  have : (fun j => w'.cell? (a.add j)) = fun j => w.cell? (a.add j) := by
    funext j
    have hb : (a.add j).block = a.block := by unfold Addr.add; split <;> rfl
    exact World.cell?_of_block (w := w) (by rw [hb]; exact h)
  rw [this]
theorem rowL_alloc (w : World) (o : Obj) (a : Addr) (n : Nat) (h : a.block < w.heap.size) : rowL (w.alloc o) a n = rowL w a n := rowL_of_block (Below.heap_alloc w o a.block h)
theorem rowL_setCell (w : World) (p : Addr) (v : Value) (a : Addr) (n : Nat) (h : a.block ≠ p.block) : rowL (w.setCell p v) a n = rowL w a n := rowL_of_block (Below.heap_setCell w p v a.block h)

theorem rowL_blk {w : World} {B n : Nat} {c : Nat → Value} (h : Blk w B n c) : rowL w ⟨B, 0, none⟩ n = some ((List.range n).map c) := by
  have hl : ((List.range n).map c).length = n := by simp
  have := rowL_some (w := w) (a := ⟨B, 0, none⟩) (cs := (List.range n).map c) (fun j v hv => by
    have hj : j < n := by
      have := (List.getElem?_eq_some_iff.1 hv).1
      simpa using this
    simp [hj] at hv
    subst hv
    have hadd : (⟨B, 0, none⟩ : Addr).add j = ⟨B, j, none⟩ := by unfold Addr.add; split <;> simp_all
    rw [hadd]; exact h.1 j hj)
  rwa [hl] at this

/-- The cells of a message of the law. -/
def msgL (fk fa xk xa : ByteArray) (id : Int) (key : ByteArray) (hops : Int) : List Value :=
  [.int .u8 0, .int .u8 0, .bool false, .bool false, .string fk, .string fa, .string xk, .string xa, .int .u64 id, .string key, .string ⟨#[]⟩, .int .i64 0, .int .i64 hops, .int .i64 0, .string ⟨#[]⟩, .string ⟨#[]⟩, .string ⟨#[]⟩, .string ⟨#[]⟩, .string ⟨#[]⟩, .int .i64 0, .pointer none, .string ⟨#[]⟩, .slice none 0 0]
def msgA (fk fa xk xa : ByteArray) (id : Int) (key : ByteArray) (hops : Int) : Array Value := (msgL fk fa xk xa id key hops).toArray
def msgC (fk fa xk xa : ByteArray) (id : Int) (key : ByteArray) (hops : Int) : Nat → Value := fun j => (msgL fk fa xk xa id key hops).getD j undef

theorem Yba.infoMsg : (Yba.prog.info? 65).map (fun i => (i.zero, i.size, i.bytes)) = some (some (.agg (msgA ⟨#[]⟩ ⟨#[]⟩ ⟨#[]⟩ ⟨#[]⟩ 0 ⟨#[]⟩ 0)), 23, 272) := by kernel_rfl

theorem msg_rowL {w : World} {M : Nat} {fk fa xk xa : ByteArray} {id : Int} {key : ByteArray} {hops : Int} (h : Blk w M 23 (msgC fk fa xk xa id key hops)) : rowL w ⟨M, 0, none⟩ 23 = some (msgL fk fa xk xa id key hops) := by
  rw [rowL_blk h]; rfl

/-- The load of a message, and the row of one message: behind names, so that the walk takes them whole. -/
def loadMsgAt (x : Value) : Sem Value := Instr.loadAt 65 x
theorem load_msg0 (x : Value) : Instr.loadAt 65 x = loadMsgAt x := rfl
def buildMsgAt (n : Nat) (ps : Array (Nat × Value)) : Sem Value := Instr.buildSlice 28 n ps
theorem build_msg0 (n : Nat) (ps : Array (Nat × Value)) : Instr.buildSlice 28 n ps = buildMsgAt n ps := rfl

/-- A whole message read out of its variable. -/
theorem load_msg (a : Addr) (w : World) (h : (rowL w a 23).isSome = true) : Sem.run Yba.prog (loadMsgAt (.pointer (some a))) w = .ok (.agg ((rowL w a 23).getD []).toArray) w := by
  obtain ⟨cs, hcs⟩ := Option.isSome_iff_exists.1 h
  obtain ⟨hl, hc⟩ := rowL_get hcs
  rw [hcs]
  simp only [loadMsgAt, Instr.loadAt, Instr.sureAddr, loadVar, Sem.run_bind, Sem.run_pure, Result.andThen_ok, Yba.isAgg65, Yba.sizeOf65, if_true, Option.getD_some]
  have := run_loadCells_list (P := Yba.prog) w a cs hc
  rw [hl] at this
  rw [this]
  simp

theorem buildSlice_msg (fk fa xk xa : ByteArray) (id : Int) (key : ByteArray) (hops : Int) (w : World) :
    Sem.run Yba.prog (buildMsgAt 1 #[(0, .agg (msgA fk fa xk xa id key hops))]) w = .ok (.slice (some ⟨w.heap.size, 0, none⟩) 1 1) (w.alloc (.cells (msgA fk fa xk xa id key hops) 65)) := by kernel_rfl

theorem msg_cells (fk fa xk xa : ByteArray) (id : Int) (key : ByteArray) (hops : Int) : (msgL fk fa xk xa id key hops).toArray = msgA fk fa xk xa id key hops := rfl

theorem msg_fresh (w : World) (fk fa xk xa : ByteArray) (id : Int) (key : ByteArray) (hops : Int) (t : TypeId) : Blk (w.alloc (.cells (msgA fk fa xk xa id key hops) t)) w.heap.size 23 (msgC fk fa xk xa id key hops) :=
  (Blk.fresh w (msgA fk fa xk xa id key hops) t).congr fun j hj => by
    simp [msgC, msgA]

end Go.Proofs.Ybulkbpca
