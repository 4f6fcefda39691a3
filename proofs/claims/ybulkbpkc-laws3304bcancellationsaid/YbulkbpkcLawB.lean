import Derived.Test.YbulkbpkcLawA
namespace Go.Proofs.Ybulkbpkc
open Go.ChangeShapes Go.WideShapes Go.ChangeAt Go.RowKit
set_option linter.unusedVariables false

def updI {α : Type} (V : Int → α) (t : Int) (v : α) : Int → α := fun s => if s = t then v else V s

/-- The areas while they are laid: the map's block, its rows. -/
structure AreaSt (R1 G : Nat) (V : Int → Value) (ts : List Int) (Af : Int → List Int) (wr : World) : Prop where
  m : MapAt K16 wr R1 (ts.map fun t => (t, V t))
  nd : ts.Nodup
  row : ∀ t, wr.ownsRow G 68 3 (V t) (Af t).length ((Af t).flatMap cE)
  nil : ∀ t, t ∉ ts → V t = .slice none 0 0
  apart : ∀ t t', t ≠ t' → (V t).ownBlock = none ∨ (V t).ownBlock ≠ (V t').ownBlock
  lt : R1 < G

theorem MapAt.later {K : Int → Value} {w w' : World} {r : Nat} {L : List (Int × Value)} (h : MapAt K w r L) (hb : Below w.heap.size w w') : MapAt K w' r L := by
  unfold MapAt
  rw [hb.block r h.lt]
  exact h

theorem AreaSt.later {R1 G : Nat} {V : Int → Value} {ts : List Int} {Af : Int → List Int} {wr w' : World} (h : AreaSt R1 G V ts Af wr) (hb : Below wr.heap.size wr w') : AreaSt R1 G V ts Af w' :=
  ⟨h.m.later hb, h.nd, fun t => owns_later (h.row t) hb, h.nil, h.apart, h.lt⟩

theorem zero66 (u : World) : Sem.run Yba.prog (zeroValue 66) u = .ok (.slice none 0 0) u := by kernel_rfl
theorem zero4 (u : World) : Sem.run Yba.prog (zeroValue 4) u = .ok (.bool false) u := by kernel_rfl

theorem idx_map {ts : List Int} {V : Int → Value} {j : Nat} {t : Int} (h : ts[j]? = some t) : (ts.map fun t => (t, V t))[j]? = some (t, V t) := by simp [h]
theorem first_map {ts : List Int} {V : Int → Value} (hn : ts.Nodup) {j : Nat} {t : Int} (h : ts[j]? = some t) : ∀ i p, i < j → (ts.map fun t => (t, V t))[i]? = some p → p.1 ≠ t := by
  intro i p hi hp e
  simp only [List.getElem?_map] at hp
  cases hq : ts[i]? with
  | none => rw [hq] at hp; cases hp
  | some q =>
    rw [hq] at hp
    simp at hp
    subst hp
    simp only at e
    subst e
    have h1 := (List.getElem?_eq_some_iff.1 hq)
    have h2 := (List.getElem?_eq_some_iff.1 h)
    obtain ⟨l1, e1⟩ := h1
    obtain ⟨l2, e2⟩ := h2
    exact List.pairwise_iff_getElem.1 hn i j l1 l2 hi (e1.trans e2.symm)

/-- What a look-up of an area gives. -/
theorem AreaSt.look {R1 G : Nat} {V : Int → Value} {ts : List Int} {Af : Int → List Int} {wr : World} (h : AreaSt R1 G V ts Af wr) (t : Int) : ∀ w', Below wr.heap.size wr w' → Sem.run Yba.prog (Instr.lookup 25 (.map (some R1)) (K16 t) false) w' = .ok (V t) w' := by
  intro w' hb
  have hm := h.m.later hb
  by_cases ht : t ∈ ts
  · obtain ⟨j, hj⟩ := List.getElem?_of_mem ht
    exact lookup_hit key63 Yba.underlying25 hm t (V t) j (idx_map hj) (first_map h.nd hj)
  · rw [h.nil t ht]
    refine lookup_miss key63 Yba.underlying25 zero66 hm t (fun p hp => ?_)
    obtain ⟨s, hs, rfl⟩ := List.mem_map.1 hp
    exact fun e => ht (by simpa [← e] using hs)

/-- The set of cells: the map of those seen. -/
theorem set_look {R2 : Nat} {F : List Int} {wr : World} (h : MapAt K32 wr R2 (F.map fun e => (e, .bool true))) (hn : F.Nodup) (e : Int) : ∀ w', Below wr.heap.size wr w' → Sem.run Yba.prog (Instr.lookup 71 (.map (some R2)) (K32 e) false) w' = .ok (.bool (F.contains e)) w' := by
  intro w' hb
  have hm := h.later hb
  by_cases ht : e ∈ F
  · obtain ⟨j, hj⟩ := List.getElem?_of_mem ht
    rw [show F.contains e = true from by simpa using ht]
    exact lookup_hit key68 Yba.underlying71 hm e (.bool true) j (idx_map (V := fun _ => .bool true) hj) (first_map (V := fun _ => .bool true) hn hj)
  · rw [show F.contains e = false from by simpa using ht]
    refine lookup_miss key68 Yba.underlying71 zero4 hm e (fun p hp => ?_)
    obtain ⟨s, hs, rfl⟩ := List.mem_map.1 hp
    exact fun e1 => ht (by simpa [← e1] using hs)

theorem firsts_nodup (z : List Int) : ∀ n, (firsts z n).Nodup
  | 0 => by simp [firsts]
  | n + 1 => by
    rw [firsts_succ]
    split
    · exact firsts_nodup z n
    · next h =>
      refine List.nodup_append.2 ⟨firsts_nodup z n, by simp, fun a ha b hb e => ?_⟩
      rw [List.mem_singleton] at hb
      subst hb e
      exact h (by simpa using ha)

/-- The cells of a station. -/
def cB (i : Int) : List Value := [.string s1, .string s2, .int .u32 i, .bool false]

/-- The MME as the law lays it: its stations' row. -/
structure MSt (w : World) (R1 N : Nat) (cb : Int) (VE : Value) (EL : List Int) (wr : World) : Prop where
  n : ∃ c, Blk wr N 23 c ∧ c 5 = .int .u16 cb ∧ c 6 = VE ∧ c 10 = .map (some R1)
  row : wr.ownsRow (N + 1) 61 4 VE EL.length (EL.flatMap cB)
  low : Below w.heap.size w wr
  ord : w.heap.size ≤ R1 ∧ R1 < N ∧ N < wr.heap.size

theorem MSt.later {w : World} {R1 N : Nat} {cb : Int} {VE : Value} {EL : List Int} {wr w' : World} (h : MSt w R1 N cb VE EL wr) (hb : Below wr.heap.size wr w') : MSt w R1 N cb VE EL w' := by
  obtain ⟨o1, o2, o3⟩ := h.ord
  obtain ⟨c, n1, n2⟩ := h.n
  exact ⟨⟨c, n1.below hb o3, n2⟩, owns_later h.row hb, h.low.trans (hb.mono (by omega)), ⟨o1, o2, Nat.lt_of_lt_of_le o3 hb.size⟩⟩
theorem MSt.drew {w : World} {R1 N : Nat} {cb : Int} {VE : Value} {EL : List Int} {wr : World} (h : MSt w R1 N cb VE EL wr) : MSt w R1 N cb VE EL wr.drew := h.later ⟨rfl, rfl, rfl, Nat.le_refl _, fun _ _ => rfl⟩

theorem enb_step {w : World} {R1 N : Nat} {cb : Int} {VE : Value} {EL : List Int} {wx w3 : World} {o : Obj} {g cap : Nat} {i : Int} {L : List (Int × Value)} (h : MSt w R1 N cb VE EL wx) (hm : MapAt K16 wx R1 L)
    (hown : w3.ownsRow (N + 1) 61 4 (.slice (some ⟨g, 0, none⟩) (EL.length + 1) cap) (EL.length + 1) (EL.flatMap cB ++ cB i)) (hgrow : (wx.alloc o).grownBy w3 VE.ownBlock) :
    w3.cell? ⟨N, 6, none⟩ = some VE ∧ w3.frozen? ⟨N, 6, none⟩ = false ∧ MSt w R1 N cb (.slice (some ⟨g, 0, none⟩) (EL.length + 1) cap) (EL ++ [i]) (w3.setCell ⟨N, 6, none⟩ (.slice (some ⟨g, 0, none⟩) (EL.length + 1) cap)) ∧ MapAt K16 (w3.setCell ⟨N, 6, none⟩ (.slice (some ⟨g, 0, none⟩) (EL.length + 1) cap)) R1 L := by
  obtain ⟨o1, o2, o3⟩ := h.ord
  obtain ⟨c, n1, n5, n6, n10⟩ := h.n
  have hB : Below (N + 1) wx w3 := ((Below.refl _ wx).alloc (by omega) o).trans ((Below.refl _ _).grown hgrow (by simp; omega) (fun j hj => (h.row.lt j hj).1))
  have hn := n1.below hB (by omega)
  refine ⟨(hn.1 6 (by omega)).trans (by rw [n6]), hn.2 6, ⟨⟨_, hn.set 6 (by omega) _, n5, rfl, n10⟩, ?_, (h.low.trans (hB.mono (by omega))).setCell (by show _ ≤ N; omega) _, ⟨o1, o2, by have := hB.size; simp; omega⟩⟩, ?_⟩
  · have := ownsRow_setCell_below hown (a := ⟨N, 6, none⟩) (by show N < N + 1; omega) (.slice (some ⟨g, 0, none⟩) (EL.length + 1) cap)
    simpa using this
  · unfold MapAt
    rw [Below.heap_setCell w3 ⟨N, 6, none⟩ _ R1 (by show R1 ≠ N; omega), hB.block R1 (by omega)]
    exact hm
/-- The first k numbers. -/
def upto (k : Nat) : List Int := (List.range k).map fun (i : Nat) => (i : Int)
theorem upto_len (k : Nat) : (upto k).length = k := by simp [upto]
theorem upto_succ (k : Nat) : upto (k + 1) = upto k ++ [(k : Int)] := by simp [upto, List.range_succ]
end Go.Proofs.Ybulkbpkc
