import Derived.Test.YbulkbpkcLawB
namespace Go.Proofs.Ybulkbpkc
open Go.ChangeShapes Go.WideShapes Go.ChangeAt Go.RowKit
set_option linter.unusedVariables false

theorem put_kp (w : World) (r : Nat) (o : Obj) : Kp (fun j => j = r) w (w.putObj r o) :=
  ⟨rfl, rfl, rfl, by simp, fun k hk h => World.putObj_heap_other h⟩

theorem owns_put {w : World} {b : Nat} {e : TypeId} {sz n : Nat} {V : Value} {xs : List Value} {K : Int → Value} {r : Nat} {L : List (Int × Value)} (h : w.ownsRow b e sz V n xs) (hm : MapAt K w r L) (o : Obj) : (w.putObj r o).ownsRow b e sz V n xs := by
  refine ⟨h.1, ?_⟩
  rcases h.2 with hn | ⟨g, cap, cur, rfl, hg1, hg, rest⟩
  · exact .inl hn
  · refine .inr ⟨g, cap, cur, rfl, hg1, ?_, rest⟩
    rw [World.putObj_heap_other (fun e => by subst e; rw [MapAt] at hm; rw [hg] at hm; cases hm)]
    exact hg

/-- The entry of an area, there or made. -/
theorem area_entry {R1 G : Nat} {V : Int → Value} {ts : List Int} {Af : Int → List Int} {w : World} (h : AreaSt R1 G V ts Af w) (t : Int) :
    ∃ ts' j w', ts'[j]? = some t ∧ Sem.run Yba.prog (Instr.mapEntry 25 (.map (some R1)) (K16 t)) w = .ok (.tuple #[V t, .int .i64 (j : Nat)]) w' ∧ AreaSt R1 G V ts' Af w' ∧ Kp (fun k => k = R1) w w' ∧ w'.heap.size = w.heap.size := by
  by_cases ht : t ∈ ts
  · obtain ⟨j, hj⟩ := List.getElem?_of_mem ht
    exact ⟨ts, j, w, hj, entry_hit key63 Yba.underlying25 h.m t (V t) j (idx_map hj) (first_map h.nd hj), h, Kp.refl _ _, rfl⟩
  · have hne : ∀ p ∈ ts.map (fun t => (t, V t)), p.1 ≠ t := fun p hp => by
      obtain ⟨s, hs, rfl⟩ := List.mem_map.1 hp
      exact fun e => ht (by simpa [← e] using hs)
    have he := entry_miss key63 Yba.underlying25 zero66 h.m t hne
    have hv := h.nil t ht
    have hL : (ts ++ [t]).map (fun t => (t, V t)) = ts.map (fun t => (t, V t)) ++ [(t, .slice none 0 0)] := by rw [List.map_append]; simp [hv]
    refine ⟨ts ++ [t], ts.length, w.putObj R1 (.map (ent K16 (ts.map (fun t => (t, V t)) ++ [(t, .slice none 0 0)])).toArray ((ts.map fun t => (t, V t)).length + 1)), by simp, ?_, ⟨?_, ?_, fun s => owns_put (h.row s) h.m _, fun s hs => h.nil s (fun h' => hs (by simp [h'])), h.apart, h.lt⟩, put_kp _ _ _, by simp⟩
    · rw [he, hv]; simp
    · have := MapAt.put (K := K16) (w := w) (r := R1) (L := (ts ++ [t]).map (fun t => (t, V t))) h.m.lt
      rw [hL] at this ⊢
      simpa using this
    · refine List.nodup_append.2 ⟨h.nd, by simp, fun a ha b hb e => ?_⟩
      rw [List.mem_singleton] at hb
      subst hb e
      exact ht ha

/-- One more cell of an area: behind the append, the entry's store. -/
theorem area_step {R1 G : Nat} {V : Int → Value} {ts : List Int} {Af : Int → List Int} {w6 w7 : World} {t : Int} {j g cap : Nat} {x : Int} (h : AreaSt R1 G V ts Af w6) (hj : ts[j]? = some t) (hG : G ≤ w6.heap.size)
    (hown : w7.ownsRow G 68 3 (.slice (some ⟨g, 0, none⟩) ((Af t).length + 1) cap) ((Af t).length + 1) ((Af t).flatMap cE ++ cE x)) (hgrow : w6.grownBy w7 (V t).ownBlock) (hgb : (V t).ownBlock = some g ∨ g = w6.heap.size) :
    ∃ w8, Sem.run Yba.prog (Instr.entryStore 25 (.map (some R1)) (.int .i64 j) (.slice (some ⟨g, 0, none⟩) ((Af t).length + 1) cap)) w7 = .ok () w8 ∧
      AreaSt R1 G (updI V t (.slice (some ⟨g, 0, none⟩) ((Af t).length + 1) cap)) ts (updI Af t (Af t ++ [x])) w8 ∧ Kp (fun k => k = R1) w7 w8 ∧ w8.heap.size = w7.heap.size := by
  have hm6 := h.m
  have hB : Below G w6 w7 := (Below.refl _ _).grown hgrow hG (fun k hk => ((h.row t).lt k hk).1)
  have hm7 : MapAt K16 w7 R1 (ts.map fun t => (t, V t)) := by
    unfold MapAt
    rw [hB.block R1 h.lt]; exact hm6
  have hse := store_entry (mt := 25) hm7 t (V t) (.slice (some ⟨g, 0, none⟩) ((Af t).length + 1) cap) j (idx_map hj)
  have hset : (ts.map fun t => (t, V t)).set j (t, .slice (some ⟨g, 0, none⟩) ((Af t).length + 1) cap) = ts.map fun s => (s, updI V t (.slice (some ⟨g, 0, none⟩) ((Af t).length + 1) cap) s) := by
    apply List.ext_getElem?
    intro i
    rw [List.getElem?_set, List.getElem?_map, List.getElem?_map]
    by_cases hij : j = i
    · subst hij
      have hl := (List.getElem?_eq_some_iff.1 hj).1
      rw [hj]
      simp [hl, updI]
    · cases hq : ts[i]? with
      | none => simp [hij]
      | some s =>
        have hst : s ≠ t := fun e => by
          subst e
          obtain ⟨l1, e1⟩ := List.getElem?_eq_some_iff.1 hq
          obtain ⟨l2, e2⟩ := List.getElem?_eq_some_iff.1 hj
          rcases Nat.lt_or_gt_of_ne hij with hlt | hlt
          · exact List.pairwise_iff_getElem.1 h.nd j i l2 l1 hlt (e2.trans e1.symm)
          · exact List.pairwise_iff_getElem.1 h.nd i j l1 l2 hlt (e1.trans e2.symm)
        simp [hij, updI, hst]
  refine ⟨_, hse, ⟨?_, h.nd, fun s => ?_, fun s hs => ?_, fun s s' hne => ?_, h.lt⟩, put_kp _ _ _, by simp⟩
  · rw [hset]
    have := MapAt.put (K := K16) (w := w7) (r := R1) (L := ts.map fun s => (s, updI V t (.slice (some ⟨g, 0, none⟩) ((Af t).length + 1) cap) s)) hm7.lt
    simpa using this
  · by_cases hs : s = t
    · subst hs
      have := owns_put hown hm7 (.map (ent K16 ((ts.map fun t => (t, V t)).set j (s, .slice (some ⟨g, 0, none⟩) ((Af s).length + 1) cap))).toArray (ts.map fun t => (t, V t)).length)
      simpa [updI] using this
    · have := owns_put ((h.row s).kept hgrow (h.apart s t hs)) hm7 (.map (ent K16 ((ts.map fun t => (t, V t)).set j (t, .slice (some ⟨g, 0, none⟩) ((Af t).length + 1) cap))).toArray (ts.map fun t => (t, V t)).length)
      simpa [updI, hs] using this
  · have hst : s ≠ t := fun e => by subst e; exact hs (List.mem_of_getElem? hj)
    simp [updI, hst]
    exact h.nil s hs
  · have key : ∀ s, s ≠ t → (V s).ownBlock = none ∨ (V s).ownBlock ≠ some g := fun s hs => by
      rcases hgb with e | e
      · rw [← e]; exact h.apart s t hs
      · cases hO : (V s).ownBlock with
        | none => exact .inl rfl
        | some k => right; intro e2; injection e2 with e2; subst e2; have := ((h.row s).lt _ hO).2; omega
    by_cases hs : s = t
    · subst hs
      have hs' : s' ≠ s := Ne.symm hne
      right
      simp only [updI, if_pos, if_neg hs']
      show some g ≠ (V s').ownBlock
      rcases key s' hs' with e | e
      · rw [e]; simp
      · exact fun e2 => e e2.symm
    · by_cases hs' : s' = t
      · subst hs'
        simp only [updI, if_neg hs, if_pos]
        exact key s hs
      · simp only [updI, if_neg hs, if_neg hs']
        exact h.apart s s' hne

theorem owns_kp {S : Nat → Prop} {w w' : World} {b : Nat} {e : TypeId} {sz n : Nat} {V : Value} {xs : List Value} (h : w.ownsRow b e sz V n xs) (hk : Kp S w w') (hS : ∀ k, S k → k < b) : w'.ownsRow b e sz V n xs := by
  refine ⟨h.1, ?_⟩
  rcases h.2 with hn | ⟨g, cap, cur, rfl, hg1, hg, rest⟩
  · exact .inl hn
  · refine .inr ⟨g, cap, cur, rfl, hg1, ?_, rest⟩
    rw [hk.block g (Array.getElem?_eq_some_iff.1 hg).1 (fun e => by have := hS g e; omega)]
    exact hg

theorem mst_area {w : World} {R1 N : Nat} {cb : Int} {VE Vt : Value} {EL : List Int} {wx w6 w7 w8 : World} {o : Obj} {n : Nat} {xs : List Value} (h : MSt w R1 N cb VE EL wx) (hK6 : Kp (fun k => k = R1) (wx.alloc o) w6) (hrow : w6.ownsRow (N + 1) 68 3 Vt n xs) (hgrow : w6.grownBy w7 Vt.ownBlock) (hK8 : Kp (fun k => k = R1) w7 w8) : MSt w R1 N cb VE EL w8 := by
  obtain ⟨o1, o2, o3⟩ := h.ord
  obtain ⟨c, n1, n2⟩ := h.n
  have hs6 : N + 1 ≤ w6.heap.size := by have := hK6.size; simp at this; omega
  have hB7 : Below (N + 1) w6 w7 := (Below.refl _ _).grown hgrow hs6 (fun k hk => (hrow.lt k hk).1)
  have hn6 := (n1.alloc o3 o).kept hK6 (by simp; omega) (by omega)
  have hn7 := hn6.below hB7 (by omega)
  have hn8 := hn7.kept hK8 (by have := hB7.size; omega) (by omega)
  have hr6 := owns_kp (h.row.alloc o) hK6 (fun k hk => by omega)
  have hr7 := hr6.kept hgrow (own_ne (by decide) hr6 hrow)
  have hr8 := owns_kp hr7 hK8 (fun k hk => by omega)
  have l6 : Below w.heap.size w w6 := (h.low.alloc (by have := h.low.size; omega) o).trans (hK6.below (by have := h.low.size; simp; omega) (fun k hk e => by omega))
  have l8 : Below w.heap.size w w8 := (l6.trans (hB7.mono (by omega))).trans (hK8.below (by have := l6.size; have := hB7.size; omega) (fun k hk e => by omega))
  exact ⟨⟨c, hn8, n2⟩, hr8, l8, ⟨o1, o2, by have := hB7.size; have := hK8.size; omega⟩⟩

theorem areaL_step (z : List Int) (n : Nat) : areaL z (n + 1) = updI (areaL z n) (z.getD n 0 / 16 % 4) (areaL z n (z.getD n 0 / 16 % 4) ++ [z.getD n 0 % 8]) := by
  funext s
  unfold updI
  by_cases h : s = z.getD n 0 / 16 % 4
  · rw [if_pos h, areaL_hit z n s h.symm, ← h]
  · rw [if_neg h, areaL_miss z n s (fun e => h e.symm)]

/-- A set's two cells. -/
def setC (VL : Value) (R2 : Nat) : Nat → Value := fun j => if j = 0 then VL else .map (some R2)

/-- The set of cells while it is laid: its list's row, its map. -/
structure SetSt (wz : World) (R2 S : Nat) (VL : Value) (F : List Int) (wr : World) : Prop where
  s : Blk wr S 2 (setC VL R2)
  row : wr.ownsRow (S + 1) 68 3 VL F.length (F.flatMap cE)
  m : MapAt K32 wr R2 (F.map fun e => (e, .bool true))
  low : Below wz.heap.size wz wr
  ord : wz.heap.size ≤ R2 ∧ R2 < S ∧ S < wr.heap.size

theorem SetSt.later {wz : World} {R2 S : Nat} {VL : Value} {F : List Int} {wr w' : World} (h : SetSt wz R2 S VL F wr) (hb : Below wr.heap.size wr w') : SetSt wz R2 S VL F w' := by
  obtain ⟨o1, o2, o3⟩ := h.ord
  exact ⟨h.s.below hb o3, owns_later h.row hb, h.m.later hb, h.low.trans (hb.mono (by omega)), ⟨o1, o2, Nat.lt_of_lt_of_le o3 hb.size⟩⟩

/-- Behind 'has[c] = true', the list's row as it was. -/
structure SetMid (wz : World) (R2 S : Nat) (VL : Value) (F F' : List Int) (wr : World) : Prop where
  s : Blk wr S 2 (setC VL R2)
  row : wr.ownsRow (S + 1) 68 3 VL F.length (F.flatMap cE)
  m : MapAt K32 wr R2 (F'.map fun e => (e, .bool true))
  low : Below wz.heap.size wz wr
  ord : wz.heap.size ≤ R2 ∧ R2 < S ∧ S < wr.heap.size

theorem set_put {wz : World} {R2 S : Nat} {VL : Value} {F : List Int} {wr : World} (h : SetSt wz R2 S VL F wr) (x : Int) :
    SetMid wz R2 S VL F (F ++ [x]) (wr.putObj R2 (.map (ent K32 (F.map (fun e => (e, .bool true)) ++ [(x, .bool true)])).toArray ((F.map fun e => (e, Value.bool true)).length + 1))) := by
  obtain ⟨o1, o2, o3⟩ := h.ord
  refine ⟨h.s.kept (put_kp _ _ _) o3 (by omega), owns_put h.row h.m _, ?_, h.low.trans ((put_kp wr R2 _).below h.low.size (fun k hk e => by omega)), ⟨o1, o2, by simpa using o3⟩⟩
  have := MapAt.put (K := K32) (w := wr) (r := R2) (L := (F ++ [x]).map fun e => (e, Value.bool true)) h.m.lt
  rw [List.map_append] at this ⊢
  simpa using this

theorem set_step {wz : World} {R2 S : Nat} {VL : Value} {F : List Int} {w6 w7 : World} {o : Obj} {g cap : Nat} {x : Int} (h : SetMid wz R2 S VL F (F ++ [x]) w6)
    (hown : w7.ownsRow (S + 1) 68 3 (.slice (some ⟨g, 0, none⟩) (F.length + 1) cap) (F.length + 1) (F.flatMap cE ++ cE x)) (hgrow : (w6.alloc o).drew.grownBy w7 VL.ownBlock) :
    w7.cell? ⟨S, 0, none⟩ = some VL ∧ w7.frozen? ⟨S, 0, none⟩ = false ∧ SetSt wz R2 S (.slice (some ⟨g, 0, none⟩) (F.length + 1) cap) (F ++ [x]) (w7.setCell ⟨S, 0, none⟩ (.slice (some ⟨g, 0, none⟩) (F.length + 1) cap)) := by
  obtain ⟨o1, o2, o3⟩ := h.ord
  have hB : Below (S + 1) w6 w7 := (((Below.refl _ w6).alloc (by omega) o).drew).trans ((Below.refl _ _).grown hgrow (by simp; omega) (fun j hj => (h.row.lt j hj).1))
  have hs := h.s.below hB (by omega)
  refine ⟨hs.1 0 (by omega), hs.2 0, (hs.set 0 (by omega) _).congr fun j hj => ?_, ?_, ?_, (h.low.trans (hB.mono (by omega))).setCell (by show _ ≤ S; omega) _, ⟨o1, o2, by have := hB.size; simp; omega⟩⟩
  · rcases (show j = 0 ∨ j = 1 from by omega) with rfl | rfl <;> rfl
  · have := ownsRow_setCell_below hown (a := ⟨S, 0, none⟩) (by show S < S + 1; omega) (.slice (some ⟨g, 0, none⟩) (F.length + 1) cap)
    simpa using this
  · unfold MapAt
    rw [Below.heap_setCell w7 ⟨S, 0, none⟩ _ R2 (by show R2 ≠ S; omega), hB.block R2 (by omega)]
    exact h.m
end Go.Proofs.Ybulkbpkc
