import Derived.Test.YbulkbpdqGreatArr
namespace Go.Proofs.YbulkbpdqGreat
open Go.ChangeShapes Go.WideShapes Go.ChangeAt Go.RowKit
set_option linter.unusedVariables false

/-- What is drawn: the number of transactions, their phases, ages and sources. -/
structure Drawn where
  n : Nat
  og : Nat → ByteArray
  age : Nat → Int
  src : Nat → Option Nat
  b1 : Nat

def Drawn.b2 (D : Drawn) : Nat := D.b1 + D.n + 1
def nilS : Value := .slice none 0 0

/-- Behind k items. -/
structure P2 (D : Drawn) (MI : Nat) (w2 : World) (k : Nat) (R : Nat → Nat) (wr : World) : Prop where
  rb : ∀ i, i < k → D.b2 + 4 * i ≤ R i ∧ R i ≤ D.b2 + 4 * i + 1
  im : ∀ i, i < k → Blk wr (D.b2 + 4 * i + 2) 3 (imC (nmB i) (ptr (D.b1 + i)) (R i))
  mr : ∀ i, i < k → MapF ptr wr (R i) (fun _ => none)
  ws : ∀ i, i < k → Blk wr (D.b2 + 4 * i + 3) 1 (fun _ => ptr (D.b2 + 4 * i + 2))
  tx : ∀ i, i < D.n → Blk wr (D.b1 + i) 19 (txC (D.age i) (D.og i) nilS (if i < k then .slice (some ⟨D.b2 + 4 * i + 3, 0, none⟩) 1 1 else nilS) false) ∧ Raw wr (D.b1 + i)
  it : ∃ F, MapF Value.string wr MI F ∧ ∀ i, i < D.n → F (nmB i) = if i < k then some (ptr (D.b2 + 4 * i + 2)) else none
  is : Blk wr (D.b1 + D.n) D.n (fun i => if i < k then ptr (D.b2 + 4 * i + 2) else .pointer none)
  sz : wr.heap.size = D.b2 + 4 * k
  kp : Kp (fun b => b = MI ∨ D.b1 ≤ b) w2 wr
  lo : MI < D.b1

def setN (R : Nat → Nat) (k r : Nat) : Nat → Nat := fun i => if i = k then r else R i

/-- The item is made. -/
theorem P2.item {D : Drawn} {MI : Nat} {w2 : World} {k : Nat} {R : Nat → Nat} {w wA : World} (h : P2 D MI w2 k R w) (hk : k < D.n) {r : Nat} (hB : Below w.heap.size w wA) (hs : wA.heap.size = w.heap.size + 3) (hr : w.heap.size ≤ r ∧ r ≤ w.heap.size + 1) (hm : MapF ptr wA r (fun _ => none)) (hi : Blk wA (w.heap.size + 2) 3 (imC (nmB k) (ptr (D.b1 + k)) r))
    {wB wC wD wE : World} (hup : ∃ F', MapF Value.string wB MI F' ∧ ∀ i, i < D.n → F' (nmB i) = if i < k + 1 then some (ptr (D.b2 + 4 * i + 2)) else none) (hKB : Kp (fun b => b = MI) wA wB) (hsB : wB.heap.size = wA.heap.size)
    (hC : wC = wB.alloc (.cells #[ptr (D.b2 + 4 * k + 2)] 52)) (hD : wD = wC.setCell ⟨D.b1 + k, 16, none⟩ (.slice (some ⟨D.b2 + 4 * k + 3, 0, none⟩) 1 1)) (hE : wE = wD.setCell ⟨D.b1 + D.n, k, none⟩ (ptr (D.b2 + 4 * k + 2))) : P2 D MI w2 (k + 1) (setN R k r) wE := by
  have hsz := h.sz
  have e2 : w.heap.size + 2 = D.b2 + 4 * k + 2 := by omega
  rw [e2] at hi
  have hb2 : D.b2 = D.b1 + D.n + 1 := rfl
  have hlo := h.lo
  -- everything but MI, tx k, the row and what is new stays
  have hkeep : ∀ b, b < w.heap.size → b ≠ MI → b ≠ D.b1 + k → b ≠ D.b1 + D.n → wE.heap[b]? = w.heap[b]? := fun b hb h1 h2 h3 => by
    rw [hE, Below.heap_setCell _ _ _ _ h3, hD, Below.heap_setCell _ _ _ _ h2, hC, Below.heap_alloc _ _ _ (by rw [hsB, hs]; omega), hKB.block b (by rw [hs]; omega) h1, hB.block b hb]
  have hkeepA : ∀ b, b < wA.heap.size → b ≠ MI → b ≠ D.b1 + k → b ≠ D.b1 + D.n → wE.heap[b]? = wA.heap[b]? := fun b hb h1 h2 h3 => by
    rw [hE, Below.heap_setCell _ _ _ _ h3, hD, Below.heap_setCell _ _ _ _ h2, hC, Below.heap_alloc _ _ _ (by rw [hsB]; omega), hKB.block b hb h1]
  have hszE : wE.heap.size = D.b2 + 4 * (k + 1) := by rw [hE, hD, hC]; simp; omega
  refine ⟨fun i hi' => ?_, fun i hi' => ?_, fun i hi' => ?_, fun i hi' => ?_, fun i hi' => ?_, ?_, ?_, hszE, ?_, h.lo⟩
  · unfold setN
    by_cases e : i = k
    · subst e; simp; omega
    · simp only [e, if_false]; exact h.rb i (by omega)
  · unfold setN
    by_cases e : i = k
    · subst e; simp only [if_true]
      exact hi.block (hkeepA _ (by omega) (by omega) (by omega) (by omega))
    · simp only [e, if_false]
      exact (h.im i (by omega)).block (hkeep _ (by omega) (by omega) (by omega) (by omega))
  · unfold setN
    by_cases e : i = k
    · subst e; simp only [if_true]
      exact hm.block (hkeepA _ (by omega) (by omega) (by omega) (by omega))
    · simp only [e, if_false]
      have := h.rb i (by omega)
      exact (h.mr i (by omega)).block (hkeep _ (by omega) (by omega) (by omega) (by omega))
  · by_cases e : i = k
    · subst e
      have hb := Blk.fresh wB #[ptr (D.b2 + 4 * i + 2)] 52
      have e3 : wB.heap.size = D.b2 + 4 * i + 3 := by omega
      rw [e3, ← hC] at hb
      have hb' : Blk wC (D.b2 + 4 * i + 3) 1 (fun _ => ptr (D.b2 + 4 * i + 2)) := hb.congr (fun j hj => by have h0 : j = 0 := (by simpa using hj); subst h0; rfl)
      rw [hE, hD]
      exact (hb'.setOther _ (by show D.b2 + 4 * i + 3 ≠ D.b1 + i; omega) _).setOther _ (by show D.b2 + 4 * i + 3 ≠ D.b1 + D.n; omega) _
    · exact (h.ws i (by omega)).block (hkeep _ (by omega) (by omega) (by omega) (by omega))
  · have ht := h.tx i hi'
    have hti : D.b1 + i < w.heap.size := by omega
    by_cases e : i = k
    · subst e
      have hbC : wC.heap[D.b1 + i]? = w.heap[D.b1 + i]? := by rw [hC, Below.heap_alloc _ _ _ (by rw [hsB, hs]; omega), hKB.block _ (by rw [hs]; omega) (by omega), hB.block _ hti]
      have hbl := (ht.1.block hbC).set 16 (by omega) (.slice (some ⟨D.b2 + 4 * i + 3, 0, none⟩) 1 1)
      have hrw := (ht.2.block hbC).setCell (D.b1 + i) 16 (.slice (some ⟨D.b2 + 4 * i + 3, 0, none⟩) 1 1)
      rw [← hD] at hbl hrw
      rw [hE]
      refine ⟨(hbl.setOther _ (by show D.b1 + i ≠ D.b1 + D.n; omega) _).congr fun j hj => ?_, hrw.setCell _ _ _⟩
      rw [txC_wr _ _ _ _ _ _ j hj]
      simp
    · refine ⟨(ht.1.block (hkeep _ hti (by omega) (by omega) (by omega))).congr fun j hj => ?_, ht.2.block (hkeep _ hti (by omega) (by omega) (by omega))⟩
      have : (i < k + 1) = (i < k) := by apply propext; omega
      simp only [this]
  · obtain ⟨F', hF1, hF2⟩ := hup
    refine ⟨F', hF1.block ?_, hF2⟩
    rw [hE, Below.heap_setCell _ _ _ _ (by show MI ≠ D.b1 + D.n; omega), hD, Below.heap_setCell _ _ _ _ (by show MI ≠ D.b1 + k; omega), hC, Below.heap_alloc _ _ _ (by rw [hsB, hs]; omega)]
  · have hbD : wD.heap[D.b1 + D.n]? = w.heap[D.b1 + D.n]? := by rw [hD, Below.heap_setCell _ _ _ _ (by show D.b1 + D.n ≠ D.b1 + k; omega), hC, Below.heap_alloc _ _ _ (by rw [hsB, hs]; omega), hKB.block _ (by rw [hs]; omega) (by omega), hB.block _ (by omega)]
    rw [hE]
    refine ((h.is.block hbD).set k hk (ptr (D.b2 + 4 * k + 2))).congr fun j hj => ?_
    unfold upd
    by_cases e : j = k
    · subst e; simp
    · have : (j < k + 1) = (j < k) := by apply propext; omega
      simp only [e, if_false, this]
  · refine h.kp.trans ⟨?_, ?_, ?_, by rw [hszE]; omega, fun b hb hP => hkeep b hb (fun e => hP (.inl e)) (fun e => hP (.inr (by omega))) (fun e => hP (.inr (by omega)))⟩
    · rw [hE, hD, hC]; exact hKB.os.trans hB.os
    · rw [hE, hD, hC]; exact hKB.tape.trans hB.tape
    · rw [hE, hD, hC]; exact hKB.output.trans hB.output

theorem empty_map (w : World) : MapF ptr (w.alloc (.map #[] 0)) w.heap.size (fun _ => none) :=
  ⟨[], 0, by rw [heap_alloc_new]; rfl, (fun p hp => by cases hp), by simp, by simp, (fun k v => ⟨(fun e => by cases e), (fun ⟨n, hn⟩ => by cases hn)⟩)⟩

/-- The item's three blocks, the bytes of its name first, or its map first. -/
def ItemAt (w : World) (k T r : Nat) (wx : World) : Prop :=
  (w.heap.size ≤ r ∧ r ≤ w.heap.size + 1) ∧ Below w.heap.size w wx ∧ wx.heap.size = w.heap.size + 3 ∧ MapF ptr wx r (fun _ => none) ∧ Blk wx (w.heap.size + 2) 3 (imC (nmB k) (ptr T) r)

theorem item_blk (w : World) (k T r : Nat) : Blk (w.alloc (.cells #[.string (nmB k), .pointer (some ⟨T, 0, none⟩), .map (some r)] 56)) w.heap.size 3 (imC (nmB k) (ptr T) r) :=
  (Blk.fresh w #[.string (nmB k), .pointer (some ⟨T, 0, none⟩), .map (some r)] 56).congr fun j hj => by
    have hj3 : j < 3 := by simpa using hj
    rcases (show j = 0 ∨ j = 1 ∨ j = 2 from by omega) with rfl | rfl | rfl <;> rfl

theorem item_a (w : World) (o : Obj) (k T : Nat) : ItemAt w k T (w.heap.size + 1) ((((w.alloc o).alloc (.map #[] 0)).alloc (.cells #[.string (nmB k), .pointer (some ⟨T, 0, none⟩), .map (some (w.heap.size + 1))] 56)).drew) := by
  have hm := empty_map (w.alloc o)
  rw [World.size_alloc] at hm
  have hb := item_blk ((w.alloc o).alloc (.map #[] 0)) k T (w.heap.size + 1)
  rw [World.size_alloc, World.size_alloc] at hb
  refine ⟨⟨by omega, by omega⟩, (((((Below.refl _ w).alloc (Nat.le_refl _) _).alloc (by simp) _).alloc (by simp; omega) _).drew), by simp [World.drew], hm.block (Below.heap_alloc _ _ _ (by simp)), hb⟩
theorem item_b (w : World) (o : Obj) (k T : Nat) : ItemAt w k T w.heap.size ((((w.alloc (.map #[] 0)).alloc o).alloc (.cells #[.string (nmB k), .pointer (some ⟨T, 0, none⟩), .map (some w.heap.size)] 56)).drew) := by
  have hm := empty_map w
  have hb := item_blk ((w.alloc (.map #[] 0)).alloc o) k T w.heap.size
  rw [World.size_alloc, World.size_alloc] at hb
  refine ⟨⟨by omega, by omega⟩, (((((Below.refl _ w).alloc (Nat.le_refl _) _).alloc (by simp) _).alloc (by simp; omega) _).drew), by simp [World.drew], (hm.block (Below.heap_alloc _ _ _ (by simp))).block (Below.heap_alloc _ _ _ (by simp; omega)), hb⟩
end Go.Proofs.YbulkbpdqGreat
