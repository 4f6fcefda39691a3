import Derived.Test.YbulkbpkcRead
namespace Go.Proofs.Ybulkbpkc
open Go.ChangeShapes Go.WideShapes Go.ChangeAt Go.RowKit
set_option linter.unusedVariables false

theorem ind_fresh (w : World) (msg ser : Int) (E : Value) : Blk (w.alloc (.cells #[.int .u16 msg, .int .u16 ser, .slice none 0 0, .slice none 0 0, E] 83)) w.heap.size 5 (indC msg ser (.slice none 0 0) (.slice none 0 0) E) :=
  (Blk.fresh w #[.int .u16 msg, .int .u16 ser, .slice none 0 0, .slice none 0 0, E] 83).congr fun j hj => by
    have hj5 : j < 5 := by simpa using hj
    rcases (show j = 0 ∨ j = 1 ∨ j = 2 ∨ j = 3 ∨ j = 4 from by omega) with rfl | rfl | rfl | rfl | rfl <;> rfl

set_option maxRecDepth 100000 in
set_option maxHeartbeats 2000000 in
/-- No cells: the indication names none. -/
theorem cancel_nil (N R : Nat) (cN cR : Nat → Value) (msg ser : Int) (E : Value) (hE : ∃ a n c, E = .slice a n c) (w : World) (hN : Blk w N 23 cN) (hR : Blk w R 6 cR) (h6 : cN 6 = E) (h0 : cR 0 = .int .u16 msg) (h1 : cR 1 = .int .u16 ser) :
    Calls Yba.prog 7 #[.pointer (some ⟨N, 0, none⟩), .pointer (some ⟨R, 0, none⟩), .pointer none] w fun e w' => ∃ I, e = .returned (.pointer (some ⟨I, 0, none⟩)) ∧ w.heap.size ≤ I ∧ Blk w' I 5 (indC msg ser (.slice none 0 0) (.slice none 0 0) E) ∧ Below w.heap.size w w' := by
  obtain ⟨ea, en, ec, rfl⟩ := hE
  have hNl := hN.lt (by omega)
  have hRl := hR.lt (by omega)
  have c6 : w.cell? ⟨N, 6, none⟩ = some (.slice ea en ec) := (hN.1 6 (by omega)).trans (by rw [h6])
  have r0 : w.cell? ⟨R, 0, none⟩ = some (.int .u16 msg) := (hR.1 0 (by omega)).trans (by rw [h0])
  have r1 : w.cell? ⟨R, 1, none⟩ = some (.int .u16 ser) := (hR.1 1 (by omega)).trans (by rw [h1])
  go_enter Yba.func7, Yba.ntmps7
  go_wp2_with fail
  go_region
  go_wp2
  go_ret
  have hi := (ind_fresh (w.alloc (.cells #[.pointer (some ⟨N, 0, none⟩)] 24)) msg ser (.slice ea en ec)).drew
  rw [World.size_alloc] at hi
  exact ⟨_, rfl, by omega, hi, (((Below.refl _ _).alloc (Nat.le_refl _) _).alloc (by simp) _).drew⟩

/-- Behind the head of 'cancellation': the captured box, the indication. -/
structure HeadSt (w : World) (N Cb I : Nat) (msg ser : Int) (C T E : Value) (wr : World) : Prop where
  c : Blk wr Cb 1 (fun _ => .pointer (some ⟨N, 0, none⟩))
  i : Blk wr I 5 (indC msg ser C T E)
  low : Below w.heap.size w wr
  ord : w.heap.size ≤ Cb ∧ Cb < I ∧ I < wr.heap.size

theorem HeadSt.later {w : World} {N Cb I : Nat} {msg ser : Int} {C T E : Value} {wr w' : World} (h : HeadSt w N Cb I msg ser C T E wr) (hb : Below wr.heap.size wr w') : HeadSt w N Cb I msg ser C T E w' := by
  obtain ⟨o1, o2, o3⟩ := h.ord
  exact ⟨h.c.below hb (by omega), h.i.below hb (by omega), h.low.trans (hb.mono (by omega)), ⟨o1, o2, Nat.lt_of_lt_of_le o3 hb.size⟩⟩

theorem HeadSt.drew {w : World} {N Cb I : Nat} {msg ser : Int} {C T E : Value} {wr : World} (h : HeadSt w N Cb I msg ser C T E wr) : HeadSt w N Cb I msg ser C T E wr.drew := ⟨h.c.drew, h.i.drew, h.low.drew, h.ord⟩

theorem owns_base {w : World} {b b' : Nat} {e : TypeId} {sz n : Nat} {V : Value} {xs : List Value} (h : w.ownsRow b e sz V n xs) (hb : b' ≤ b) : w.ownsRow b' e sz V n xs := by
  refine ⟨h.1, ?_⟩
  rcases h.2 with hn | ⟨g, cap, cur, rfl, hg1, rest⟩
  · exact .inl hn
  · exact .inr ⟨g, cap, cur, rfl, Nat.le_trans hb hg1, rest⟩

/-- Behind the append and the store of one more cancelled cell. -/
theorem cells_step {w : World} {N Cb I G : Nat} {msg ser : Int} {C T E : Value} {wx w3 : World} {o : Obj} {n g cap : Nat} {xs news : List Value} (h : HeadSt w N Cb I msg ser C T E wx) (hrow : wx.ownsRow G 86 4 C n xs) (hG : I < G ∧ G ≤ wx.heap.size)
    (hown : w3.ownsRow G 86 4 (.slice (some ⟨g, 0, none⟩) (n + 1) cap) (n + 1) (xs ++ news)) (hgrow : (wx.alloc o).grownBy w3 C.ownBlock) :
    HeadSt w N Cb I msg ser C T E w3 ∧ (HeadSt w N Cb I msg ser (.slice (some ⟨g, 0, none⟩) (n + 1) cap) T E (w3.setCell ⟨I, 2, none⟩ (.slice (some ⟨g, 0, none⟩) (n + 1) cap)) ∧ (w3.setCell ⟨I, 2, none⟩ (.slice (some ⟨g, 0, none⟩) (n + 1) cap)).ownsRow G 86 4 (.slice (some ⟨g, 0, none⟩) (n + 1) cap) (n + 1) (xs ++ news) ∧ G ≤ (w3.setCell ⟨I, 2, none⟩ (.slice (some ⟨g, 0, none⟩) (n + 1) cap)).heap.size) := by
  obtain ⟨o1, o2, o3⟩ := h.ord
  have hB : Below G wx w3 := ((Below.refl _ wx).alloc hG.2 o).trans ((Below.refl _ _).grown hgrow (by simp; omega) (fun j hj => (hrow.lt j hj).1))
  have h3 : HeadSt w N Cb I msg ser C T E w3 := ⟨h.c.below hB (by omega), h.i.below hB (by omega), h.low.trans (hB.mono (by omega)), ⟨o1, o2, Nat.lt_of_lt_of_le o3 hB.size⟩⟩
  refine ⟨h3, ⟨h3.c.setOther _ (by show Cb ≠ I; omega) _, (h3.i.set 2 (by omega) _).congr fun j hj => ?_, h3.low.setCell (by show _ ≤ I; omega) _, ⟨o1, o2, by simpa using h3.ord.2.2⟩⟩, ownsRow_setCell_below hown (by show I < G; omega) _, ?_⟩
  · rcases (show j = 0 ∨ j = 1 ∨ j = 2 ∨ j = 3 ∨ j = 4 from by omega) with rfl | rfl | rfl | rfl | rfl <;> rfl
  · have := hB.size; simp; omega

theorem flat_snoc (f : Int → List Value) (l : List Int) (k : Nat) (x : Int) (h : l[k]? = some x) : (l.take k).flatMap f ++ f x = (l.take (k + 1)).flatMap f := by
  rw [List.take_add_one, h]; simp

set_option maxRecDepth 100000 in
set_option maxHeartbeats 4000000 in
/-- No area is named: every cell of the set. -/
theorem cancel_cells (N R S : Nat) (cN cR cS : Nat → Value) (msg ser cb : Int) (E TA : Value) (hE : ∃ a n c, E = .slice a n c) (hTA : ∃ a c, TA = .slice a 0 c) (l : List Int) (b0 : Nat) (w : World) (hN : Blk w N 23 cN) (hR : Blk w R 6 cR) (hS : Blk w S 2 cS) (h5 : cN 5 = .int .u16 cb) (h6 : cN 6 = E) (h0 : cR 0 = .int .u16 msg) (h1 : cR 1 = .int .u16 ser) (h4 : cR 4 = TA)
    (hrow : w.ownsRow b0 68 3 (cS 0) l.length (l.flatMap cE)) (hl : l.length ≤ 1024) :
    Calls Yba.prog 7 #[.pointer (some ⟨N, 0, none⟩), .pointer (some ⟨R, 0, none⟩), .pointer (some ⟨S, 0, none⟩)] w fun e w' => ∃ I C, e = .returned (.pointer (some ⟨I, 0, none⟩)) ∧ w.heap.size ≤ I ∧ Blk w' I 5 (indC msg ser C (.slice none 0 0) E) ∧ w'.ownsRow w.heap.size 86 4 C l.length (l.flatMap (cC cb)) ∧ Below w.heap.size w w' := by
  obtain ⟨ea, en, ec, rfl⟩ := hE
  obtain ⟨ta, tc, rfl⟩ := hTA
  have hNl := hN.lt (by omega)
  have hRl := hR.lt (by omega)
  have hSl := hS.lt (by omega)
  obtain ⟨la, lc, hVL, hread⟩ := row_read cE (fun _ => rfl) hrow
  have c5 : w.cell? ⟨N, 5, none⟩ = some (.int .u16 cb) := (hN.1 5 (by omega)).trans (by rw [h5])
  have c6 : w.cell? ⟨N, 6, none⟩ = some (.slice ea en ec) := (hN.1 6 (by omega)).trans (by rw [h6])
  have r0 : w.cell? ⟨R, 0, none⟩ = some (.int .u16 msg) := (hR.1 0 (by omega)).trans (by rw [h0])
  have r1 : w.cell? ⟨R, 1, none⟩ = some (.int .u16 ser) := (hR.1 1 (by omega)).trans (by rw [h1])
  have r4 : w.cell? ⟨R, 4, none⟩ = some (.slice ta 0 tc) := (hR.1 4 (by omega)).trans (by rw [h4])
  have q0 : w.cell? ⟨S, 0, none⟩ = some (.slice la l.length lc) := (hS.1 0 (by omega)).trans (by rw [hVL])
  have HRD : Hid _ := hread
  clear hread hrow hVL
  obtain ⟨i0, hi, hz0, hz1, hz2⟩ := info_parts Yba.infoC
  go_enter Yba.func7, Yba.ntmps7
  go_wp2_with fail
  go_region
  have hI := (ind_fresh (w.alloc (.cells #[.pointer (some ⟨N, 0, none⟩)] 24)) msg ser (.slice ea en ec)).drew
  have hCb := ((Blk.fresh w #[.pointer (some ⟨N, 0, none⟩)] 24).alloc (by simp) (.cells #[.int .u16 msg, .int .u16 ser, .slice none 0 0, .slice none 0 0, .slice ea en ec] 83)).drew
  rw [World.size_alloc] at hI
  have hH : HeadSt w N w.heap.size (w.heap.size + 1) msg ser (.slice none 0 0) (.slice none 0 0) (.slice ea en ec) ((w.alloc (.cells #[.pointer (some ⟨N, 0, none⟩)] 24)).alloc (.cells #[.int .u16 msg, .int .u16 ser, .slice none 0 0, .slice none 0 0, .slice ea en ec] 83)).drew :=
    ⟨hCb.congr fun j hj => by have : j = 0 := by simpa using hj
                              subst this; rfl, hI, (((Below.refl _ _).alloc (Nat.le_refl _) _).alloc (by simp) _).drew, ⟨Nat.le_refl _, by omega, by simp⟩⟩
  clear hI hCb
  generalize World.drew _ = w1 at hH ⊢
  have d4 : w1.cell? ⟨R, 4, none⟩ = some (.slice ta 0 tc) := (hH.low.cell (p := ⟨R, 4, none⟩) hRl).trans r4
  have d0 : w1.cell? ⟨S, 0, none⟩ = some (.slice la l.length lc) := (hH.low.cell (p := ⟨S, 0, none⟩) hSl).trans q0
  go_wp2_with fail
  obtain ⟨Cb, hCb⟩ : ∃ Cb, Cb = w.heap.size := ⟨_, rfl⟩
  have HCb : Hid (Cb = w.heap.size) := hCb
  have hlow := hH.low.size
  rw [← hCb] at hH
  rw [← hCb]
  clear hCb d4 d0
  obtain ⟨I, hI⟩ : ∃ I, I = Cb + 1 := ⟨_, rfl⟩
  have HI : Hid (I = Cb + 1) := hI
  rw [← hI] at hH
  rw [← hI]
  clear hI
  go_loopw [45] (fun i wr => ∃ (k : Nat) (C : Value), k ≤ l.length ∧ i = .int .i64 k ∧ HeadSt w N Cb I msg ser C (.slice none 0 0) (.slice ea en ec) wr ∧ wr.ownsRow (I + 1) 86 4 C k ((l.take k).flatMap (cC cb)) ∧ I + 1 ≤ wr.heap.size) (fun i _ => l.length - (intOf i).toNat)
  case atStart => exact ⟨0, _, by omega, rfl, hH, World.ownsRow_nil _ _ _ _, by have := hH.ord; omega⟩
  case round =>
    clear hH
    obtain ⟨k, C, hk, rfl, hH, hrow, hG⟩ := hrel
    by_cases hlt : k < l.length
    · obtain ⟨x, hx⟩ : ∃ x, l[k]? = some x := ⟨_, List.getElem?_eq_getElem hlt⟩
      obtain ⟨g, rfl, hgl, hcells⟩ := HRD.out k x hx
      have HX : Hid _ := hx
      have hgr : g < wr.heap.size := Nat.lt_of_lt_of_le hgl hH.low.size
      have y0 : wr.cell? ⟨g, k * 3, none⟩ = some (.string s1) := (hH.low.cell (p := ⟨g, k * 3, none⟩) hgl).trans (hcells 0 (by omega))
      have y1 : wr.cell? ⟨g, k * 3 + 1, none⟩ = some (.string s2) := (hH.low.cell (p := ⟨g, k * 3 + 1, none⟩) hgl).trans (hcells 1 (by omega))
      have y2 : wr.cell? ⟨g, k * 3 + 2, none⟩ = some (.int .u32 x) := (hH.low.cell (p := ⟨g, k * 3 + 2, none⟩) hgl).trans (hcells 2 (by omega))
      clear hcells hx
      have hk0 : (0 : Int) ≤ (k : Int) := by omega
      have hk7 : (k : Int) < (l.length : Int) := by omega
      go_wp2_with fail
      have hP := (Blk.fresh wr #[.string s1, .string s2, .int .u32 x] 68)
      have hB2 : Below wr.heap.size wr (wr.alloc (.cells #[.string s1, .string s2, .int .u32 x] 68)) := (Below.refl _ _).alloc (Nat.le_refl _) _
      have hH2 := hH.later hB2
      have hrow2 := owns_later hrow hB2
      have hPl : wr.heap.size < (wr.alloc (.cells #[.string s1, .string s2, .int .u32 x] 68)).heap.size := by simp
      obtain ⟨P, hPe⟩ : ∃ P, P = wr.heap.size := ⟨_, rfl⟩
      rw [← hPe] at hP hPl
      rw [← hPe]
      have hPI : I + 1 ≤ P := by omega
      generalize World.alloc wr _ = w2 at hP hH2 hrow2 hPl ⊢
      clear hPe hH hrow y0 y1 y2 hB2 hG hgr
      have p0 : w2.cell? ⟨P, 0, none⟩ = some (.string s1) := hP.1 0 (by simp)
      have p1 : w2.cell? ⟨P, 1, none⟩ = some (.string s2) := hP.1 1 (by simp)
      have p2 : w2.cell? ⟨P, 2, none⟩ = some (.int .u32 x) := hP.1 2 (by simp)
      have i2 : w2.cell? ⟨I, 2, none⟩ = some C := hH2.i.1 2 (by omega)
      have hN2 : N < w2.heap.size := by have := hH2.low.size; omega
      have c52 : w2.cell? ⟨N, 5, none⟩ = some (.int .u16 cb) := (hH2.low.cell (p := ⟨N, 5, none⟩) hNl).trans c5
      have HH2 : Hid (HeadSt w N Cb I msg ser C (.slice none 0 0) (.slice ea en ec) w2) := hH2
      have HR2 : Hid (w2.ownsRow (I + 1) 86 4 C k ((l.take k).flatMap (cC cb))) := hrow2
      clear hH2 hrow2
      go_region_law ((first
          | (refine step_append_lies _ (by rfl) _ _ 80 (by rfl) (I + 1) 86 i0 _ 4 48 Yba.underlying80 hi hz0 hz1 hz2 rfl (by omega) C k ((l.take k).flatMap (cC cb)) (by rfl) ((HRX.out.alloc _)) ⟨wx.heap.size, 0, none⟩ 1 1 (cC cb x) (by rfl) (by rfl) (World.news_of_block (cs := #[.string s1, .string s2, .int .u32 x, .int .u16 cb]) (t := 86) (fr := (0, 0)) (heap_alloc_new wx _)) (by simp [cC, Value.oneCell']) (by omega) (by unfold maxLen; omega) (by omega) (by simp; have := HHX.out.ord; omega) (wx.heap.size + 1) (by simp) ?_; intro g' cap' w3 hown hgrow hgb hgl'; have HF : Hid _ := cells_step HHX.out HRX.out (by have := HHX.out.ord; omega) hown hgrow; have e2 : w3.cell? ⟨I, 2, none⟩ = some C := HF.out.1.i.1 2 (by omega); have e2f := HF.out.1.i.2 2; clear hown hgrow hgb hgl')
          | (go_simp; go_at_call 9; refine (cancelled_any Cb N x cb _ (by exact HH2.out.c.1 0 (by omega)) (by exact c52) (by exact HH2.out.c.lt (by omega)) (by exact hN2)).mono ?_; rintro e wx ⟨rfl, hBx⟩; have HHX : Hid (HeadSt w N Cb I msg ser C (.slice none 0 0) (.slice ea en ec) wx) := HH2.out.drew.later hBx; have HRX : Hid (wx.ownsRow (I + 1) 86 4 C k ((l.take k).flatMap (cC cb))) := owns_later HR2.out.drew hBx; have i2x : wx.cell? ⟨I, 2, none⟩ = some C := HHX.out.i.1 2 (by omega); have hIx : I < wx.heap.size := HHX.out.ord.2.2; clear hBx)))
      all_goals
        have HG : Hid (HeadSt w N Cb I msg ser (.slice (some ⟨g', 0, none⟩) (k + 1) cap') (.slice none 0 0) (.slice ea en ec) (w3.setCell ⟨I, 2, none⟩ (.slice (some ⟨g', 0, none⟩) (k + 1) cap')) ∧ (w3.setCell ⟨I, 2, none⟩ (.slice (some ⟨g', 0, none⟩) (k + 1) cap')).ownsRow (I + 1) 86 4 (.slice (some ⟨g', 0, none⟩) (k + 1) cap') (k + 1) ((l.take (k + 1)).flatMap (cC cb)) ∧ I + 1 ≤ (w3.setCell ⟨I, 2, none⟩ (.slice (some ⟨g', 0, none⟩) (k + 1) cap')).heap.size) := by
          rw [← flat_snoc (cC cb) l k x HX.out]
          exact HF.out.2
        clear HF e2 e2f
        go_wp2
        go_roundw
        case rel => exact ⟨k + 1, _, by omega, by go_num, HG.out⟩
        case measure => simp [intOf]; omega
    · obtain rfl : k = l.length := by omega
      have HR : Hid (∃ I' C, Value.pointer (some ⟨I, 0, none⟩) = .pointer (some ⟨I', 0, none⟩) ∧ w.heap.size ≤ I' ∧ Blk wr I' 5 (indC msg ser C (.slice none 0 0) (.slice ea en ec)) ∧ wr.ownsRow w.heap.size 86 4 C l.length (l.flatMap (cC cb)) ∧ Below w.heap.size w wr) := by
        rw [List.take_length] at hrow
        exact ⟨I, C, rfl, by have := HCb.out; have := HI.out; omega, hH.i, owns_base hrow (by have := HCb.out; have := HI.out; omega), hH.low⟩
      clear hH hrow
      go_wp2
      go_ret
      obtain ⟨I', C, e1, h⟩ := HR.out
      exact ⟨I', C, by rw [← e1]; rfl, h⟩
end Go.Proofs.Ybulkbpkc
