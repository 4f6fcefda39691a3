import Derived.Test.YbulkbpdqGreatDown
namespace Go.Proofs.YbulkbpdqGreat
open Go.ChangeShapes Go.WideShapes Go.ChangeAt Go.RowKit
set_option linter.unusedVariables false

theorem Ybaz.infoPtr : (Ybaz.prog.info? 34).map (fun i => (i.zero, i.size, i.bytes)) = some (some (.pointer none), 1, 8) := by kernel_rfl

theorem ta_txn (v : Value) (w : World) : Sem.run Ybaz.prog (Instr.typeAssert (.iface 34 v) 20 34 false) w = .ok v w := by kernel_rfl
attribute [go_sem] ta_txn

/-- The scheduler's block, and its candidates. -/
structure HS (w : World) (B N : Nat) (c : Nat → Value) (L : List Nat) : Prop where
  blk : Blk w N 209 c
  row : w.ownsRow B 34 1 (c 206) L.length (L.map ptr)
  tx : ∀ b ∈ L, b < B ∧ Tx w b
  nb : N < B
  sz : B ≤ w.heap.size

/-- Where the candidates' row lies behind a step. -/
def Moved (w : World) (V V' : Value) : Prop := V'.ownBlock = V.ownBlock ∨ ∃ g, V'.ownBlock = some g ∧ w.heap.size ≤ g

theorem Tx.kept {S : Nat → Prop} {w w' : World} {b : Nat} (h : Tx w b) (hk : Kp S w w') (hs : ¬ S b) : Tx w' b := h.block (hk.block b h.lt hs)

theorem push_step {w w3 : World} {B N : Nat} {c : Nat → Value} {L : List Nat} {b g cap : Nat} {o : Obj} (h : HS w B N c L) (hb : b < B ∧ Tx w b)
    (hown : w3.ownsRow B 34 1 (.slice (some ⟨g, 0, none⟩) (L.length + 1) cap) (L.length + 1) (L.map ptr ++ [ptr b])) (hgrow : (w.alloc o).drew.grownBy w3 (c 206).ownBlock) (hgb : (c 206).ownBlock = some g ∨ g = w.heap.size + 1) :
    w3.cell? ⟨N, 206, none⟩ = some (c 206) ∧ w3.frozen? ⟨N, 206, none⟩ = false ∧ HS (w3.setCell ⟨N, 206, none⟩ (.slice (some ⟨g, 0, none⟩) (L.length + 1) cap)) B N (upd c 206 (.slice (some ⟨g, 0, none⟩) (L.length + 1) cap)) (L ++ [b]) ∧
      Kp (fun k => k = N ∨ (c 206).ownBlock = some k) w (w3.setCell ⟨N, 206, none⟩ (.slice (some ⟨g, 0, none⟩) (L.length + 1) cap)) ∧ Moved w (c 206) (.slice (some ⟨g, 0, none⟩) (L.length + 1) cap) := by
  have hB : Below B w w3 := (((Below.refl _ w).alloc h.sz o).drew).trans ((Below.refl _ _).grown hgrow (by have := h.sz; simp; omega) (fun j hj => (h.row.lt j hj).1))
  have hn := h.blk.below hB h.nb
  have hK : Kp (fun k => k = N ∨ (c 206).ownBlock = some k) w w3 := (((Kp.refl _ w).alloc o).drew).grown hgrow (fun k hk _ => .inr hk)
  refine ⟨hn.1 206 (by omega), hn.2 206, ⟨hn.set 206 (by omega) _, ?_, ?_, h.nb, by have := h.sz; have := hB.size; simp; omega⟩, hK.setCell (p := ⟨N, 206, none⟩) (fun _ => .inl rfl) _, ?_⟩
  · have := ownsRow_setCell_below hown (a := ⟨N, 206, none⟩) h.nb (.slice (some ⟨g, 0, none⟩) (L.length + 1) cap)
    simpa [upd] using this
  · intro x hx
    have hxx : x < B ∧ Tx w x := by
      rcases List.mem_append.1 hx with hx | hx
      · exact h.tx x hx
      · simp at hx; subst hx; exact hb
    refine ⟨hxx.1, ?_⟩
    have h1 : Tx w3 x := hxx.2.block (hB.block x hxx.1)
    by_cases e : x = N
    · subst e
      refine ⟨(World.cell?_setCell_other _ _ _ _ (by simp)).trans h1.1, ?_⟩
      obtain ⟨y, hy⟩ := h1.2
      exact ⟨y, (World.cell?_setCell_other _ _ _ _ (by simp)).trans hy⟩
    · exact h1.block (Below.heap_setCell _ _ _ _ e)
  · rcases hgb with e | e
    · exact .inl e.symm
    · exact .inr ⟨g, rfl, by omega⟩

set_option maxRecDepth 100000 in
set_option maxHeartbeats 1000000 in
theorem bpush_any (B N b : Nat) (c : Nat → Value) (L : List Nat) (w : World) (h : HS w B N c L) (hb : b < B ∧ Tx w b) (hl : L.length ≤ 1024) :
    Calls Ybaz.prog 196 #[.pointer (some ⟨N, 206, none⟩), .iface 34 (ptr b)] w fun e w' => e = .returned (.tuple #[]) ∧ ∃ V', HS w' B N (upd c 206 V') (L ++ [b]) ∧ Kp (fun k => k = N ∨ (c 206).ownBlock = some k) w w' ∧ Moved w (c 206) V' := by
  obtain ⟨i0, hi, hz0, hz1, hz2⟩ := info_parts Ybaz.infoPtr
  have hN := h.blk.lt (by omega)
  have c206 := h.blk.1 206 (by omega)
  have f206 := h.blk.2 206
  obtain ⟨V, hV⟩ : ∃ V, V = c 206 := ⟨_, rfl⟩
  rw [← hV] at c206
  have HV : Hid (V = c 206) := hV
  have HH : Hid (HS w B N c L) := h
  have hrow : w.ownsRow B 34 1 V L.length (L.map ptr) := by rw [hV]; exact h.row
  have hsz := h.sz
  clear hV h
  unfold ptr
  go_enter Ybaz.func196, Ybaz.ntmps196
  go_wp2_with fail
  go_region_law ((refine step_append_lies _ (by rfl) _ _ 76 (by rfl) B 34 i0 _ 1 8 Ybaz.underlying76 hi hz0 hz1 hz2 rfl (by omega) V L.length (L.map ptr) (by rfl) ((hrow.alloc _)) ⟨w.heap.size, 0, none⟩ 1 1 [ptr b] (by rfl) (by rfl) (World.news_of_block (cs := #[ptr b]) (t := 34) (fr := (0, 0)) (heap_alloc_new w _)) (by simp [Value.oneCell', ptr]) (by omega) (by unfold maxLen; omega) (by omega) (by simp; omega) (w.heap.size + 1) (by simp) ?_; intro g cap w3 hown hgrow hgb hgl; have HF : Hid _ := push_step HH.out hb hown (by rw [← HV.out]; exact hgrow) (by rw [← HV.out]; exact hgb); have e0 := HF.out.1; have fe0 := HF.out.2.1; clear hown hgrow hgb hgl))
  all_goals
    go_wp2
    go_end0
    exact ⟨rfl, _, HF.out.2.2.1, HF.out.2.2.2⟩

theorem HS.shape {w : World} {B N : Nat} {c : Nat → Value} {L : List Nat} (h : HS w B N c L) (hL : 0 < L.length) : ∃ g cap, c 206 = .slice (some ⟨g, 0, none⟩) L.length cap ∧ HQ w g cap L ∧ B ≤ g := by
  rcases h.row.2 with ⟨_, h0⟩ | ⟨g, cap, cur, h1, h2, h3, h4, h5, h6, h7⟩
  · omega
  · exact ⟨g, cap, h1, ⟨⟨cur, h3, by simpa using h6, h4, h5, by simpa using h7⟩, fun b hb => ⟨by have := (h.tx b hb).1; omega, (h.tx b hb).2⟩⟩, h2⟩

theorem HS.perm {w w' : World} {B N g cap : Nat} {c : Nat → Value} {L L' : List Nat} (h : HS w B N c L) (hc : c 206 = .slice (some ⟨g, 0, none⟩) L.length cap) (hB : B ≤ g) (hK : Kp (fun k => k = g) w w') (hQ : HQ w' g cap L') (hp : L'.Perm L) : HS w' B N c L' := by
  obtain ⟨cur, h1, h2, h3, h4, h5⟩ := hQ.row
  have hll := hp.length_eq
  refine ⟨h.blk.kept hK (h.blk.lt (by omega)) (by have := h.nb; show ¬ N = g; omega), ⟨by simp, .inr ⟨g, cap, cur, by rw [hc, hll], hB, h1, h3, h4, by simpa using h2, by simpa using h5⟩⟩, fun b hb => ?_, h.nb, Nat.le_trans h.sz hK.size⟩
  exact ⟨(h.tx b (hp.mem_iff.1 hb)).1, (hQ.tx b hb).2⟩

set_option maxRecDepth 100000 in
theorem blen_any (a : Option Addr) (n cap : Nat) (w : World) : Calls Ybaz.prog 12 #[.slice a n cap] w fun e w' => e = .returned (.int .i64 n) ∧ w' = w := by
  go_enter Ybaz.func12, Ybaz.ntmps12
  go_wp2
  go_ret
  exact ⟨rfl, rfl⟩

set_option maxRecDepth 100000 in
set_option maxHeartbeats 1000000 in
theorem hpush_any (B N b : Nat) (c : Nat → Value) (L : List Nat) (w : World) (h : HS w B N c L) (hb : b < B ∧ Tx w b) (hl : L.length ≤ 1000) :
    Calls Ybaz.prog 26 #[.iface 139 (.pointer (some ⟨N, 206, none⟩)), .iface 34 (ptr b)] w fun e w' => e = .returned (.tuple #[]) ∧ ∃ V' L', L'.Perm (L ++ [b]) ∧ HS w' B N (upd c 206 V') L' ∧ Kp (fun k => k = N ∨ (c 206).ownBlock = some k) w w' ∧ Moved w (c 206) V' := by
  go_enter Ybaz.func26, Ybaz.ntmps26
  go_wp2_with fail
  refine (bpush_any B N b c L w h hb (by omega)).mono ?_
  rintro e w2 ⟨rfl, V', h2, hK2, hM2⟩
  obtain ⟨g, cap, hV, hQ, hBg⟩ := h2.shape (by simp)
  have hV' : V' = .slice (some ⟨g, 0, none⟩) (L ++ [b]).length cap := hV
  have c206 : w2.cell? ⟨N, 206, none⟩ = some (.slice (some ⟨g, 0, none⟩) (L ++ [b]).length cap) := (h2.blk.1 206 (by omega)).trans (by rw [hV])
  go_wp2_with fail
  refine (blen_any _ _ _ _).mono ?_
  rintro e w3 ⟨rfl, rfl⟩
  have HF : Hid (∀ w4 L', L'.Perm (L ++ [b]) → HQ w4 g cap L' → Kp (fun k => k = g) w3 w4 → HS w4 B N (upd c 206 V') L' ∧ Kp (fun k => k = N ∨ (c 206).ownBlock = some k) w w4) := fun w4 L' h1 h3 h4 => by
    refine ⟨h2.perm hV hBg h4 h3 h1, ((hK2.mono (T := fun k => (k = N ∨ (c 206).ownBlock = some k) ∨ k = g) fun k hk => .inl hk).trans (h4.mono fun k hk => .inr hk)).narrow fun k hk hs => ?_⟩
    rcases hs with hs | rfl
    · exact hs
    · right
      have ho : V'.ownBlock = some k := by rw [hV']; rfl
      rcases hM2 with e | ⟨g', e1, e2⟩
      · rw [← e, ho]
      · rw [ho] at e1; cases e1; omega
  have hNg : N ≠ g := by have := h.nb; omega
  clear hV h h2
  go_wp2_with fail
  refine (up_any N 206 g cap L.length (L ++ [b]) w3 c206 hNg hQ (by simp) (by simp; omega)).mono ?_
  rintro e w4 ⟨rfl, L', hp, hQ4, hK4⟩
  have HG := HF.out w4 L' hp hQ4 hK4
  clear hQ4 hK4
  go_wp2_with fail
  go_end0
  exact ⟨rfl, V', L', hp, HG.1, HG.2, hM2⟩

theorem pop_step {w : World} {B N x g cap : Nat} {c : Nat → Value} {L : List Nat} (h : HS w B N c (L ++ [x])) (hV : c 206 = .slice (some ⟨g, 0, none⟩) (L ++ [x]).length cap) (hQ : HQ w g cap (L ++ [x])) (hBg : B ≤ g) :
    HS ((w.setCell ⟨g, L.length, none⟩ (.pointer none)).setCell ⟨N, 206, none⟩ (.slice (some ⟨g, 0, none⟩) L.length cap)) B N (upd c 206 (.slice (some ⟨g, 0, none⟩) L.length cap)) L ∧ Kp (fun k => k = N ∨ (c 206).ownBlock = some k) w ((w.setCell ⟨g, L.length, none⟩ (.pointer none)).setCell ⟨N, 206, none⟩ (.slice (some ⟨g, 0, none⟩) L.length cap)) := by
  have hNg : N ≠ g := by have := h.nb; omega
  obtain ⟨cur, h1, h2, h3, h4, h5⟩ := hQ.row
  have hK : Kp (fun k => k = N ∨ (c 206).ownBlock = some k) w ((w.setCell ⟨g, L.length, none⟩ (.pointer none)).setCell ⟨N, 206, none⟩ (.slice (some ⟨g, 0, none⟩) L.length cap)) := ((Kp.refl (fun k => k = N ∨ (c 206).ownBlock = some k) w).setCell (p := ⟨g, L.length, none⟩) (fun _ => .inr (by rw [hV]; rfl)) _).setCell (p := ⟨N, 206, none⟩) (fun _ => .inl rfl) _
  refine ⟨⟨(h.blk.setOther ⟨g, L.length, none⟩ hNg _).set 206 (by omega) _, ?_, fun b hb => ?_, h.nb, Nat.le_trans h.sz hK.size⟩, hK⟩
  · have hr : (w.setCell ⟨g, L.length, none⟩ (.pointer none)).ownsRow B 34 1 (.slice (some ⟨g, 0, none⟩) L.length cap) L.length (L.map ptr) := by
      refine ⟨by simp, .inr ⟨g, cap, cur.setIfInBounds L.length (.pointer none), rfl, hBg, by simp [World.setCell, Array.getElem?_modify, h1], by simp at h3; omega, h4, by simpa using h2, ?_⟩⟩
      simp only [Nat.mul_one, Array.toList_setIfInBounds]
      rw [List.take_set_of_le (Nat.le_refl _)]
      have e1 : cur.toList.take L.length = (cur.toList.take (L ++ [x]).length).take L.length := by rw [List.take_take]; simp
      rw [e1, h5]
      simp
    have := ownsRow_setCell_below hr (a := ⟨N, 206, none⟩) h.nb (.slice (some ⟨g, 0, none⟩) L.length cap)
    simpa [upd] using this
  · have hbx := h.tx b (List.mem_append_left _ hb)
    refine ⟨hbx.1, ?_⟩
    have h1 : Tx (w.setCell ⟨g, L.length, none⟩ (.pointer none)) b := hbx.2.block (Below.heap_setCell _ _ _ _ (by show b ≠ g; omega))
    by_cases e : b = N
    · subst e
      refine ⟨(World.cell?_setCell_other _ _ _ _ (by simp)).trans h1.1, ?_⟩
      obtain ⟨y, hy⟩ := h1.2
      exact ⟨y, (World.cell?_setCell_other _ _ _ _ (by simp)).trans hy⟩
    · exact h1.block (Below.heap_setCell _ _ _ _ e)

set_option maxRecDepth 100000 in
set_option maxHeartbeats 1000000 in
theorem bpop_any (B N x : Nat) (c : Nat → Value) (L : List Nat) (w : World) (h : HS w B N c (L ++ [x])) (hl : L.length ≤ 1000) :
    Calls Ybaz.prog 195 #[.pointer (some ⟨N, 206, none⟩)] w fun e w' => e = .returned (.iface 34 (ptr x)) ∧ ∃ V', HS w' B N (upd c 206 V') L ∧ Kp (fun k => k = N ∨ (c 206).ownBlock = some k) w w' ∧ V'.ownBlock = (c 206).ownBlock := by
  obtain ⟨g, cap, hV, hQ, hBg⟩ := h.shape (by simp)
  have c206 : w.cell? ⟨N, 206, none⟩ = some (.slice (some ⟨g, 0, none⟩) (L ++ [x]).length cap) := (h.blk.1 206 (by omega)).trans (by rw [hV])
  have f206 := h.blk.2 206
  have hN := h.blk.lt (by omega)
  have cg := hQ.cell (i := L.length) (b := x) (by simp)
  have fg := hQ.frozen L.length
  have hNg : N ≠ g := by have := h.nb; omega
  have hcap : L.length + 1 ≤ cap := by obtain ⟨cur, h1, h2, h3, h4, h5⟩ := hQ.row; simpa using h3
  go_enter Ybaz.func195, Ybaz.ntmps195
  have HF : Hid _ := pop_step h hV hQ hBg
  have HV : Hid (c 206 = .slice (some ⟨g, 0, none⟩) (L ++ [x]).length cap) := hV
  clear h hV hQ
  go_wp2_with fail
  go_ret
  exact ⟨rfl, _, HF.out.1, HF.out.2, by rw [HV.out]; rfl⟩

set_option maxRecDepth 100000 in
set_option maxHeartbeats 1000000 in
theorem hpop_any (B N : Nat) (c : Nat → Value) (L : List Nat) (w : World) (h : HS w B N c L) (hL : 0 < L.length) (hl : L.length ≤ 1000) :
    Calls Ybaz.prog 27 #[.iface 139 (.pointer (some ⟨N, 206, none⟩))] w fun e w' => ∃ x L', e = .returned (.iface 34 (ptr x)) ∧ L.Perm (L' ++ [x]) ∧ ∃ V', HS w' B N (upd c 206 V') L' ∧ Kp (fun k => k = N ∨ (c 206).ownBlock = some k) w w' ∧ V'.ownBlock = (c 206).ownBlock := by
  obtain ⟨g, cap, hV, hQ, hBg⟩ := h.shape hL
  have c206 : w.cell? ⟨N, 206, none⟩ = some (.slice (some ⟨g, 0, none⟩) L.length cap) := (h.blk.1 206 (by omega)).trans (by rw [hV])
  have hN := h.blk.lt (by omega)
  have hNg : N ≠ g := by have := h.nb; omega
  obtain ⟨n, hn⟩ : ∃ n, L.length = n + 1 := ⟨L.length - 1, by omega⟩
  obtain ⟨a, ha⟩ : ∃ a, L[0]? = some a := ⟨_, List.getElem?_eq_getElem (by omega)⟩
  obtain ⟨b, hb⟩ : ∃ b, L[n]? = some b := ⟨_, List.getElem?_eq_getElem (by omega)⟩
  have HV : Hid (c 206 = .slice (some ⟨g, 0, none⟩) L.length cap) := hV
  have HS0 : Hid (HS w B N c L) := h
  have HLN : Hid (L.length = n + 1) := hn
  have hn2 : (L.length : Int) - 1 = (n : Int) := by omega
  clear h hV hn
  go_enter Ybaz.func27, Ybaz.ntmps27
  go_wp2_with fail
  refine (blen_any _ _ _ _).mono ?_
  rintro e w3 ⟨rfl, rfl⟩
  go_wp2_with fail
  refine (swap_any g cap 0 n a b L w3 hQ ha hb).mono ?_
  rintro e w4 ⟨rfl, hQ4, hK4⟩
  have hp4 := (hQ.swap ha hb).2.2
  obtain ⟨L4, hL4⟩ : ∃ L4, L4 = (L.set 0 b).set n a := ⟨_, rfl⟩
  rw [← hL4] at hQ4 hp4
  have hl4 := hp4.length_eq
  have h4 := HS0.out.perm HV.out hBg hK4 hQ4 hp4
  have c4 : w4.cell? ⟨N, 206, none⟩ = some (.slice (some ⟨g, 0, none⟩) L4.length cap) := (h4.blk.1 206 (by omega)).trans (by rw [HV.out, hl4])
  have HP4 : Hid (L4.Perm L) := hp4
  have hl4a : 0 < L4.length := by omega
  have hl4b : n ≤ L4.length := by have := HLN.out; omega
  have hl4c : L4.length ≤ 1000 := by omega
  have HK4 : Hid (Kp (fun k => k = g) w3 w4) := hK4
  clear hQ hL4 hp4 hl4 ha hb hn2 c206 hK4 h4
  go_wp2_with fail
  refine (down_any N 206 g cap n L4 w4 c4 hNg hQ4 hl4a hl4b (by omega)).mono ?_
  rintro e w5 ⟨⟨t, rfl⟩, L5, hp5, hQ5, hK5⟩
  have h5 := HS0.out.perm HV.out hBg (HK4.out.trans hK5) hQ5 (hp5.trans HP4.out)
  have hl5 := (hp5.trans HP4.out).length_eq
  obtain ⟨L6, x, rfl⟩ : ∃ L6 x, L5 = L6 ++ [x] := by
    rcases List.eq_nil_or_concat L5 with e | ⟨l, a, e⟩
    · rw [e] at hl5; simp at hl5; omega
    · exact ⟨l, a, by simpa using e⟩
  have hl6 : L6.length ≤ 1000 := by simp at hl5; omega
  have HP5 : Hid ((L6 ++ [x]).Perm L) := hp5.trans HP4.out
  have HK5 : Hid (Kp (fun k => k = g) w3 w5) := HK4.out.trans hK5
  have H5 : Hid (HS w5 B N c (L6 ++ [x])) := h5
  clear hp5 hQ5 hK5 hl5 hQ4 c4 h5
  go_wp2_with fail
  refine (bpop_any B N x c L6 w5 H5.out hl6).mono ?_
  rintro e w6 ⟨rfl, V', h6, hK6, hV6⟩
  have HF : Hid (L.Perm (L6 ++ [x]) ∧ ∃ V', HS w6 B N (upd c 206 V') L6 ∧ Kp (fun k => k = N ∨ (c 206).ownBlock = some k) w3 w6 ∧ V'.ownBlock = (c 206).ownBlock) := ⟨HP5.out.symm, V', h6, (HK5.out.mono fun k hk => .inr (by rw [HV.out, hk]; rfl)).trans hK6, hV6⟩
  clear h6 hK6 hV6
  go_wp2_with fail
  go_ret
  exact ⟨x, L6, rfl, HF.out⟩

set_option maxRecDepth 100000 in
set_option maxHeartbeats 1000000 in
/-- A transaction becomes a candidate. -/
theorem cand_new (B N b : Nat) (c d : Nat → Value) (L : List Nat) (w : World) (h : HS w B N c L) (hb : Blk w b 19 d) (hbB : b < B) (hbN : b ≠ N) (d0 : d 0 = .int .u64 0) (x : Int) (d13 : d 13 = .int .u64 x) (d17 : d 17 = .bool false) (hr : Raw w b) (hl : L.length ≤ 1000) :
    Calls Ybaz.prog 10 #[.pointer (some ⟨N, 0, none⟩), ptr b] w fun e w' => e = .returned (.tuple #[]) ∧ ∃ V' L', L'.Perm (L ++ [b]) ∧ HS w' B N (upd c 206 V') L' ∧ (Blk w' b 19 (upd d 17 (.bool true)) ∧ Raw w' b) ∧ Kp (fun k => k = N ∨ k = b ∨ (c 206).ownBlock = some k) w w' ∧ Moved w (c 206) V' := by
  have e17 : w.cell? ⟨b, 17, none⟩ = some (.bool false) := (hb.1 17 (by omega)).trans (by rw [d17])
  have f17 := hb.2 17
  have hN := h.blk.lt (by omega)
  have hbl := hb.lt (by omega)
  have hb2 := hb.set 17 (by omega) (.bool true)
  have htx : ∀ y, Tx w y → Tx (w.setCell ⟨b, 17, none⟩ (.bool true)) y := fun y hy => by
    obtain ⟨z, hz⟩ := hy.2
    exact ⟨(World.cell?_setCell_other _ _ _ _ (by simp)).trans hy.1, z, (World.cell?_setCell_other _ _ _ _ (by simp)).trans hz⟩
  have hBl : Tx w b := ⟨(hb.1 0 (by omega)).trans (by rw [d0]), x, (hb.1 13 (by omega)).trans (by rw [d13])⟩
  have h2 : HS (w.setCell ⟨b, 17, none⟩ (.bool true)) B N c L := ⟨h.blk.setOther _ (fun e => hbN e.symm) _, ownsRow_setCell_below h.row (a := ⟨b, 17, none⟩) hbB _, fun y hy => ⟨(h.tx y hy).1, htx y (h.tx y hy).2⟩, h.nb, by simpa using h.sz⟩
  have hown : ∀ k, (c 206).ownBlock = some k → B ≤ k := fun k hk => (h.row.lt k hk).1
  have hK1 : Kp (fun k => k = N ∨ k = b ∨ (c 206).ownBlock = some k) w (w.setCell ⟨b, 17, none⟩ (.bool true)) := (Kp.refl (fun k => k = N ∨ k = b ∨ (c 206).ownBlock = some k) w).setCell (p := ⟨b, 17, none⟩) (fun _ => .inr (.inl rfl)) _
  have hT := htx b hBl
  have H2 : Hid _ := h2
  have HB2 : Hid (Blk (w.setCell ⟨b, 17, none⟩ (.bool true)) b 19 (upd d 17 (.bool true))) := hb2
  have HO : Hid (∀ k, (c 206).ownBlock = some k → B ≤ k) := hown
  have HT : Hid (Tx (w.setCell ⟨b, 17, none⟩ (.bool true)) b) := hT
  clear h hb h2 hb2 htx hBl hown hT d0 d13 d17
  unfold ptr
  go_enter Ybaz.func10, Ybaz.ntmps10
  go_wp2_with fail
  refine (hpush_any B N b c L _ H2.out ⟨hbB, HT.out⟩ hl).mono ?_
  rintro e w3 ⟨rfl, V', L', hp, h3, hK3, hM3⟩
  have HF : Hid (L'.Perm (L ++ [b]) ∧ HS w3 B N (upd c 206 V') L' ∧ (Blk w3 b 19 (upd d 17 (.bool true)) ∧ Raw w3 b) ∧ Kp (fun k => k = N ∨ k = b ∨ (c 206).ownBlock = some k) w w3 ∧ Moved w (c 206) V') := by
    have hnb : ¬ (b = N ∨ (c 206).ownBlock = some b) := fun e => by
      rcases e with e | e
      · exact hbN e
      · have := HO.out b e; omega
    refine ⟨hp, h3, ⟨HB2.out.kept hK3 (by simpa using hbl) hnb, (hr.setCell b 17 (.bool true)).block (hK3.block b (by simpa using hbl) hnb)⟩, hK1.trans (hK3.mono fun k hk => hk.elim .inl (fun h => .inr (.inr h))), ?_⟩
    · rcases hM3 with e | ⟨g, e1, e2⟩
      · exact .inl e
      · exact .inr ⟨g, e1, by simpa using e2⟩
  clear hp h3 hK3 hM3
  go_wp2_with fail
  go_end0
  exact ⟨rfl, V', L', HF.out⟩

set_option maxRecDepth 100000 in
theorem cand_old (N b : Nat) (w : World) (e17 : w.cell? ⟨b, 17, none⟩ = some (.bool true)) :
    Calls Ybaz.prog 10 #[.pointer (some ⟨N, 0, none⟩), ptr b] w fun e w' => e = .returned (.tuple #[]) ∧ w' = w := by
  have hbl : b < w.heap.size := by
    by_cases e : b < w.heap.size
    · exact e
    · simp [World.cell?, Array.getElem?_eq_none (Nat.le_of_not_lt e)] at e17
  unfold ptr
  go_enter Ybaz.func10, Ybaz.ntmps10
  go_wp2_with fail
  go_end0
  exact ⟨rfl, rfl⟩
end Go.Proofs.YbulkbpdqGreat
