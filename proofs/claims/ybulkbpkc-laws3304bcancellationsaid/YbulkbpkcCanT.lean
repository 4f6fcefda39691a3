import Derived.Test.YbulkbpkcCan
namespace Go.Proofs.Ybulkbpkc
open Go.ChangeShapes Go.WideShapes Go.ChangeAt Go.RowKit
set_option linter.unusedVariables false

/-- One area of the indication: its code, its cells' codes, their slice. -/
abbrev AreaOut := Int × List Int × Value
def cI (x : AreaOut) : List Value := [.string s1, .string s2, .int .u16 x.1, x.2.2]

/-- The rows of the areas named so far. -/
structure OutSt (G : Nat) (cb : Int) (T : Value) (OV : List AreaOut) (wr : World) : Prop where
  row : wr.ownsRow G 88 4 T OV.length (OV.flatMap cI)
  inner : ∀ x ∈ OV, wr.ownsRow G 86 4 x.2.2 x.2.1.length (x.2.1.flatMap (cC cb))
  one : ∀ x ∈ OV, x.2.2.oneCell' = true

theorem OutSt.later {G : Nat} {cb : Int} {T : Value} {OV : List AreaOut} {wr w' : World} (h : OutSt G cb T OV wr) (hb : Below wr.heap.size wr w') : OutSt G cb T OV w' :=
  ⟨owns_later h.row hb, fun x hx => owns_later (h.inner x hx) hb, h.one⟩

/-- What is named for the areas TL: those with a cell of the set. -/
def named (A : Int → List Int) (H : Int → Bool) (TL : List Int) : List (Int × List Int) := (TL.map fun t => (t, (A t).filter H)).filter fun p => !p.2.isEmpty

theorem named_snoc (A : Int → List Int) (H : Int → Bool) (TL : List Int) (k : Nat) (t : Int) (h : TL[k]? = some t) : named A H (TL.take (k + 1)) = named A H (TL.take k) ++ (if ((A t).filter H).isEmpty then [] else [(t, (A t).filter H)]) := by
  unfold named
  rw [List.take_add_one, h]
  simp only [Option.toList_some, List.map_append, List.filter_append, List.map_cons, List.map_nil]
  congr 1
  by_cases he : ((A t).filter H).isEmpty = true
  · rw [if_pos he, List.filter_cons_of_neg (by rw [he]; simp), List.filter_nil]
  · rw [if_neg he, List.filter_cons_of_pos (by cases h2 : ((A t).filter H).isEmpty with
      | true => exact absurd h2 he
      | false => rfl), List.filter_nil]

/-- The inner box: an area and its cells so far. -/
def inC (t : Int) (V : Value) : Nat → Value := fun j => if j = 0 then .string s1 else if j = 1 then .string s2 else if j = 2 then .int .u16 t else V

theorem in_fresh (w : World) (t : Int) : Blk (w.alloc (.cells #[.string s1, .string s2, .int .u16 t, .slice none 0 0] 88)) w.heap.size 4 (inC t (.slice none 0 0)) :=
  (Blk.fresh w #[.string s1, .string s2, .int .u16 t, .slice none 0 0] 88).congr fun j hj => by
    have hj4 : j < 4 := by simpa using hj
    rcases (show j = 0 ∨ j = 1 ∨ j = 2 ∨ j = 3 from by omega) with rfl | rfl | rfl | rfl <;> rfl

/-- While one area's cells are gathered: nothing below the round's start turned; the inner box; its row. -/
structure InSt (w0 : World) (D G : Nat) (t : Int) (V : Value) (cb : Int) (m : List Int) (wq : World) : Prop where
  d : Blk wq D 4 (inC t V)
  row : wq.ownsRow G 86 4 V m.length (m.flatMap (cC cb))
  low : Below w0.heap.size w0 wq
  ord : w0.heap.size ≤ D ∧ D < G ∧ G ≤ wq.heap.size

theorem InSt.later {w0 : World} {D G : Nat} {t : Int} {V : Value} {cb : Int} {m : List Int} {wq w' : World} (h : InSt w0 D G t V cb m wq) (hb : Below wq.heap.size wq w') : InSt w0 D G t V cb m w' := by
  obtain ⟨o1, o2, o3⟩ := h.ord
  exact ⟨h.d.below hb (by omega), owns_later h.row hb, h.low.trans (hb.mono (by have := h.low.size; omega)), ⟨o1, o2, Nat.le_trans o3 hb.size⟩⟩
theorem InSt.drew {w0 : World} {D G : Nat} {t : Int} {V : Value} {cb : Int} {m : List Int} {wq : World} (h : InSt w0 D G t V cb m wq) : InSt w0 D G t V cb m wq.drew := ⟨h.d.drew, h.row.drew, h.low.drew, h.ord⟩

theorem InSt.drewN {w0 : World} {D G : Nat} {t : Int} {V : Value} {cb : Int} {m : List Int} {wq : World} (h : InSt w0 D G t V cb m wq) (n : Nat) : InSt w0 D G t V cb m (wq.drewN n) := h.later ⟨rfl, rfl, rfl, Nat.le_refl _, fun _ _ => rfl⟩

theorem filt_yes (H : Int → Bool) (l : List Int) (j : Nat) (x : Int) (h : l[j]? = some x) (hx : H x = true) : (l.take (j + 1)).filter H = (l.take j).filter H ++ [x] := by
  rw [List.take_add_one, h]; simp [hx]
theorem filt_no (H : Int → Bool) (l : List Int) (j : Nat) (x : Int) (h : l[j]? = some x) (hx : H x = false) : (l.take (j + 1)).filter H = (l.take j).filter H := by
  rw [List.take_add_one, h]; simp [hx]

theorem in_step {w0 : World} {D G : Nat} {t : Int} {V : Value} {cb : Int} {m : List Int} {wx w3 : World} {o : Obj} {g cap : Nat} {x : Int} (h : InSt w0 D G t V cb m wx)
    (hown : w3.ownsRow G 86 4 (.slice (some ⟨g, 0, none⟩) (m.length + 1) cap) (m.length + 1) (m.flatMap (cC cb) ++ cC cb x)) (hgrow : (wx.alloc o).grownBy w3 V.ownBlock) :
    Blk w3 D 4 (inC t V) ∧ InSt w0 D G t (.slice (some ⟨g, 0, none⟩) (m.length + 1) cap) cb (m ++ [x]) (w3.setCell ⟨D, 3, none⟩ (.slice (some ⟨g, 0, none⟩) (m.length + 1) cap)) := by
  obtain ⟨o1, o2, o3⟩ := h.ord
  have hB : Below G wx w3 := ((Below.refl _ wx).alloc o3 o).trans ((Below.refl _ _).grown hgrow (by simp; omega) (fun j hj => (h.row.lt j hj).1))
  have hd := h.d.below hB o2
  refine ⟨hd, (hd.set 3 (by omega) _).congr fun j hj => ?_, ?_, (h.low.trans (hB.mono (by omega))).setCell (by show _ ≤ D; omega) _, ⟨o1, o2, by have := hB.size; simp; omega⟩⟩
  · rcases (show j = 0 ∨ j = 1 ∨ j = 2 ∨ j = 3 from by omega) with rfl | rfl | rfl | rfl <;> rfl
  · have := ownsRow_setCell_below hown (a := ⟨D, 3, none⟩) (by show D < G; omega) (.slice (some ⟨g, 0, none⟩) (m.length + 1) cap)
    simpa using this

theorem own_ne {w : World} {b b' : Nat} {e e' : TypeId} {sz sz' n n' : Nat} {v T : Value} {xs ys : List Value} (he : e ≠ e') (h : w.ownsRow b e sz v n xs) (h' : w.ownsRow b' e' sz' T n' ys) : v.ownBlock = none ∨ v.ownBlock ≠ T.ownBlock := by
  rcases h.2 with ⟨rfl, _⟩ | ⟨g, cap, cur, rfl, _, hg, _⟩
  · exact .inl rfl
  · rcases h'.2 with ⟨rfl, _⟩ | ⟨g', cap', cur', rfl, _, hg', _⟩
    · right; simp [Value.ownBlock]
    · right
      simp only [Value.ownBlock]
      intro e1
      injection e1 with e1
      subst e1
      rw [hg] at hg'
      injection hg' with hg'
      injection hg' with _ h2
      exact he h2

theorem out_step {w : World} {N Cb I : Nat} {msg ser cb : Int} {C T E : Value} {wx w3 : World} {o : Obj} {OV : List AreaOut} {g cap : Nat} {t : Int} {m : List Int} {V : Value} (h : HeadSt w N Cb I msg ser C T E wx) (hO : OutSt (I + 1) cb T OV wx) (hV : wx.ownsRow (I + 1) 86 4 V m.length (m.flatMap (cC cb))) (h1 : V.oneCell' = true)
    (hown : w3.ownsRow (I + 1) 88 4 (.slice (some ⟨g, 0, none⟩) (OV.length + 1) cap) (OV.length + 1) (OV.flatMap cI ++ cI (t, m, V))) (hgrow : (wx.alloc o).drew.grownBy w3 T.ownBlock) :
    Blk w3 I 5 (indC msg ser C T E) ∧ HeadSt w N Cb I msg ser C (.slice (some ⟨g, 0, none⟩) (OV.length + 1) cap) E (w3.setCell ⟨I, 3, none⟩ (.slice (some ⟨g, 0, none⟩) (OV.length + 1) cap)) ∧
      OutSt (I + 1) cb (.slice (some ⟨g, 0, none⟩) (OV.length + 1) cap) (OV ++ [(t, m, V)]) (w3.setCell ⟨I, 3, none⟩ (.slice (some ⟨g, 0, none⟩) (OV.length + 1) cap)) := by
  obtain ⟨o1, o2, o3⟩ := h.ord
  have hB : Below (I + 1) wx w3 := (((Below.refl _ wx).alloc (by omega) o).drew).trans ((Below.refl _ _).grown hgrow (by simp; omega) (fun j hj => (hO.row.lt j hj).1))
  have hi := h.i.below hB (by omega)
  have keep : ∀ (v : Value) (n : Nat) (xs : List Value), wx.ownsRow (I + 1) 86 4 v n xs → (w3.setCell ⟨I, 3, none⟩ (.slice (some ⟨g, 0, none⟩) (OV.length + 1) cap)).ownsRow (I + 1) 86 4 v n xs := fun v n xs hv =>
    ownsRow_setCell_below (((hv.alloc o).drew).kept hgrow (own_ne (by decide) hv hO.row)) (by show I < I + 1; omega) _
  refine ⟨hi, ⟨(h.c.below hB (by omega)).setOther _ (by show Cb ≠ I; omega) _, (hi.set 3 (by omega) _).congr fun j hj => ?_, (h.low.trans (hB.mono (by omega))).setCell (by show _ ≤ I; omega) _, ⟨o1, o2, by have := hB.size; simp; omega⟩⟩, ?_, fun x hx => ?_, fun x hx => ?_⟩
  · rcases (show j = 0 ∨ j = 1 ∨ j = 2 ∨ j = 3 ∨ j = 4 from by omega) with rfl | rfl | rfl | rfl | rfl <;> rfl
  · have := ownsRow_setCell_below hown (a := ⟨I, 3, none⟩) (by show I < I + 1; omega) (.slice (some ⟨g, 0, none⟩) (OV.length + 1) cap)
    simpa using this
  · rcases List.mem_append.1 hx with hx | hx
    · exact keep _ _ _ (hO.inner x hx)
    · rw [List.mem_singleton] at hx; subst hx; exact keep _ _ _ hV
  · rcases List.mem_append.1 hx with hx | hx
    · exact hO.one x hx
    · rw [List.mem_singleton] at hx; subst hx; exact h1
end Go.Proofs.Ybulkbpkc
