import Derived.Test.YbulkbpcaCon
namespace Go.Proofs.Ybulkbpca
open Go.ChangeShapes Go.WideShapes Go.ChangeAt Go.RowKit
set_option linter.unusedVariables false
attribute [local go_sem ↓] Go.wp_at_zero Go.wp_at_succ

/-- Which of the first k contacts stay. -/
def kept (vs : Nat → Int) (id : Int) (k : Nat) : List Nat := (List.range k).filter (fun i => decide (vs i ≠ id))

theorem kept_hit {vs : Nat → Int} {id : Int} {k : Nat} (h : vs k = id) : kept vs id (k + 1) = kept vs id k := by
  unfold kept; rw [List.range_succ, List.filter_append]; simp [h]
theorem kept_miss {vs : Nat → Int} {id : Int} {k : Nat} (h : vs k ≠ id) : kept vs id (k + 1) = kept vs id k ++ [k] := by
  unfold kept; rw [List.range_succ, List.filter_append]; simp [h]
theorem kept_none {vs : Nat → Int} {id : Int} {k : Nat} (h : ∀ j, j < k → vs j ≠ id) : kept vs id k = List.range k := by
  unfold kept; rw [List.filter_eq_self]; intro a ha; simpa using h a (by simpa using ha)
theorem kept_len (vs : Nat → Int) (id : Int) (k : Nat) : (kept vs id k).length ≤ k := by
  have := List.length_filter_le (fun i => decide (vs i ≠ id)) (List.range k); simpa [kept] using this

/-- One contact laid into its place. -/
def put5 (w : World) (g q : Nat) (v t : Int) : World :=
  ((((w.setCell ⟨g, q * 5, none⟩ (.string ⟨#[99]⟩)).setCell ⟨g, q * 5 + 1, none⟩ (.string ⟨#[]⟩)).setCell ⟨g, q * 5 + 2, none⟩ (.int .u64 v)).setCell ⟨g, q * 5 + 3, none⟩ (.int .i64 t)).setCell ⟨g, q * 5 + 4, none⟩ (.int .i64 0)

theorem cell_put5_off (w : World) (g q o : Nat) (v t : Int) (h : o < q * 5 ∨ q * 5 + 4 < o) : (put5 w g q v t).cell? ⟨g, o, none⟩ = w.cell? ⟨g, o, none⟩ := by
  have hh : ∀ (W : World) (k : Nat) (x : Value), k < 5 → (W.setCell ⟨g, q * 5 + k, none⟩ x).cell? ⟨g, o, none⟩ = W.cell? ⟨g, o, none⟩ := fun W k x hk => World.cell?_setCell_other _ _ _ _ (by intro e; injection e; omega)
  exact (hh _ 4 _ (by omega)).trans ((hh _ 3 _ (by omega)).trans ((hh _ 2 _ (by omega)).trans ((hh _ 1 _ (by omega)).trans (hh _ 0 _ (by omega)))))

theorem Con.other {w : World} {g q p : Nat} {v t v' t' : Int} (h : Con w g p v' t') (hp : p ≠ q) : Con (put5 w g q v t) g p v' t' :=
  ⟨(cell_put5_off _ _ _ _ _ _ (by omega)).trans h.c0, (cell_put5_off _ _ _ _ _ _ (by omega)).trans h.c1, (cell_put5_off _ _ _ _ _ _ (by omega)).trans h.c2, (cell_put5_off _ _ _ _ _ _ (by omega)).trans h.c3, (cell_put5_off _ _ _ _ _ _ (by omega)).trans h.c4⟩

theorem Con.put {w : World} {g q : Nat} {v t v' t' : Int} (h : Con w g q v' t') : Con (put5 w g q v t) g q v t := by
  have h1 := World.cell?_setCell_same w ⟨g, q * 5, none⟩ (.string ⟨#[99]⟩) h.c0
  obtain ⟨a0, a1, a2, a3, a4⟩ := h
  unfold put5
  constructor
  · rw [World.cell?_setCell_other _ _ _ _ (by simp), World.cell?_setCell_other _ _ _ _ (by simp), World.cell?_setCell_other _ _ _ _ (by simp), World.cell?_setCell_other _ _ _ _ (by simp)]; exact World.cell?_setCell_same _ _ _ a0
  · rw [World.cell?_setCell_other _ _ _ _ (by simp), World.cell?_setCell_other _ _ _ _ (by simp), World.cell?_setCell_other _ _ _ _ (by simp)]; exact World.cell?_setCell_same _ _ _ (by rw [World.cell?_setCell_other _ _ _ _ (by simp)]; exact a1)
  · rw [World.cell?_setCell_other _ _ _ _ (by simp), World.cell?_setCell_other _ _ _ _ (by simp)]; exact World.cell?_setCell_same _ _ _ (by rw [World.cell?_setCell_other _ _ _ _ (by simp), World.cell?_setCell_other _ _ _ _ (by simp)]; exact a2)
  · rw [World.cell?_setCell_other _ _ _ _ (by simp)]; exact World.cell?_setCell_same _ _ _ (by rw [World.cell?_setCell_other _ _ _ _ (by simp), World.cell?_setCell_other _ _ _ _ (by simp), World.cell?_setCell_other _ _ _ _ (by simp)]; exact a3)
  · exact World.cell?_setCell_same _ _ _ (by rw [World.cell?_setCell_other _ _ _ _ (by simp), World.cell?_setCell_other _ _ _ _ (by simp), World.cell?_setCell_other _ _ _ _ (by simp), World.cell?_setCell_other _ _ _ _ (by simp)]; exact a4)

/-- DeleteFunc's loop: i places are filled, j are read. -/
structure DelInv (vs ts : Nat → Int) (id : Int) (n g : Nat) (w wr : World) (i j : Nat) : Prop where
  le : j ≤ n
  lt : i < j
  len : i = (kept vs id j).length
  pre : ∀ q x, (kept vs id j)[q]? = some x → Con wr g q (vs x) (ts x)
  post : ∀ q, j ≤ q → q < n → Con wr g q (vs q) (ts q)
  all : ∀ q, q < n → ∃ v t, Con wr g q v t
  fr : ∀ o, wr.frozen? ⟨g, o, none⟩ = false
  kp : Kp (fun b => b = g) w wr

theorem DelInv.hit {vs ts : Nat → Int} {id : Int} {n g : Nat} {w wr w2 : World} {i j : Nat} (h : DelInv vs ts id n g w wr i j) (hj : j < n) (hv : vs j = id) (hg : g < wr.heap.size) (hb : Below wr.heap.size wr w2) : DelInv vs ts id n g w w2 i (j + 1) :=
  ⟨hj, by have := h.lt; omega, by rw [kept_hit hv]; exact h.len, fun q x hq => by rw [kept_hit hv] at hq; exact (h.pre q x hq).below hb hg, fun q h1 h2 => (h.post q (by omega) h2).below hb hg,
    fun q hq => by obtain ⟨v, t, hc⟩ := h.all q hq; exact ⟨v, t, hc.below hb hg⟩, fun o => (hb.frozen (p := ⟨g, o, none⟩) hg).trans (h.fr o), h.kp.then hb⟩

theorem frozen_put5 (w : World) (g q : Nat) (v t : Int) (x : Addr) : (put5 w g q v t).frozen? x = w.frozen? x := by
  unfold put5; rw [World.frozen?_setCell, World.frozen?_setCell, World.frozen?_setCell, World.frozen?_setCell, World.frozen?_setCell]

theorem Kp.put5 {S : Nat → Prop} {a w : World} (h : Kp S a w) (g q : Nat) (v t : Int) (hg : S g) : Kp S a (put5 w g q v t) := by
  unfold Ybulkbpca.put5
  exact ((((h.setCell (fun _ => hg) _).setCell (fun _ => hg) _).setCell (fun _ => hg) _).setCell (fun _ => hg) _).setCell (fun _ => hg) _

theorem DelInv.miss {vs ts : Nat → Int} {id : Int} {n g : Nat} {w wr w2 : World} {i j : Nat} (h : DelInv vs ts id n g w wr i j) (hj : j < n) (hv : vs j ≠ id) (hg : g < wr.heap.size) (hb : Below wr.heap.size wr w2) : DelInv vs ts id n g w (put5 w2 g i (vs j) (ts j)) (i + 1) (j + 1) := by
  have hlt := h.lt
  refine ⟨hj, by omega, by rw [kept_miss hv]; simp [← h.len], fun q x hq => ?_, fun q h1 h2 => ((h.post q (by omega) h2).below hb hg).other (by omega), fun q hq => ?_, fun o => by rw [frozen_put5]; exact (hb.frozen (p := ⟨g, o, none⟩) hg).trans (h.fr o), (h.kp.then hb).put5 g i _ _ rfl⟩
  · rw [kept_miss hv] at hq
    by_cases e : q = i
    · subst e
      rw [h.len, List.getElem?_append_right (Nat.le_refl _)] at hq
      simp at hq
      subst hq
      obtain ⟨v, t, hc⟩ := h.all q (by omega)
      exact (hc.below hb hg).put
    · have hq' : q < (kept vs id j).length := by
        have := (List.getElem?_eq_some_iff.1 hq).1
        rw [← h.len] at *
        simp [← h.len] at this
        omega
      rw [List.getElem?_append_left hq'] at hq
      exact ((h.pre q x hq).below hb hg).other e
  · obtain ⟨v, t, hc⟩ := h.all q hq
    by_cases e : q = i
    · subst e; exact ⟨_, _, (hc.below hb hg).put⟩
    · exact ⟨v, t, (hc.below hb hg).other e⟩

theorem Con.cells {w : World} {g i : Nat} {v t : Int} (h : Con w g i v t) (j : Nat) (hj : j < 5) : (w.cell? ⟨g, i * 5 + j, none⟩).isSome = true := by
  rcases (show j = 0 ∨ j = 1 ∨ j = 2 ∨ j = 3 ∨ j = 4 from by omega) with rfl | rfl | rfl | rfl | rfl
  · have := h.c0; simp only [Nat.add_zero]; rw [this]; rfl
  · rw [h.c1]; rfl
  · rw [h.c2]; rfl
  · rw [h.c3]; rfl
  · rw [h.c4]; rfl

/-- What 'clear' lays over m contacts. -/
def zeros (m : Nat) : List Value := (Builtin.zeroCells #[.string ⟨#[]⟩, .string ⟨#[]⟩, .int .u64 0, .int .i64 0, .int .i64 0] m).toList

theorem clear_con (w : World) (g o m c : Nat) (hm : 0 < m) (hc : ∀ j, j < m * 5 → (w.cell? ⟨g, o + j, none⟩).isSome = true) (hf : ∀ j, w.frozen? ⟨g, o + j, none⟩ = false) :
    (Builtin.clear_ #[48] 0 #[.slice (some ⟨g, o, none⟩) m c]).run Yba.prog w = .ok (.tuple #[]) (w.setCells g o (zeros m)) := by
  have hl : (zeros m).length = m * 5 := by simp [zeros, Builtin.zeroCells]
  have hst := run_storeCells_cells (P := Yba.prog) g o (zeros m) 0 w (by rw [hl]; simpa using hc) (by rw [hl]; intro j _; simpa using hf j) (by
    intro v hv
    simp only [zeros, Builtin.zeroCells] at hv
    simp at hv
    obtain ⟨a, ha, rfl⟩ := hv
    have h5 : a % 5 < 5 := Nat.mod_lt _ (by omega)
    rcases (show a % 5 = 0 ∨ a % 5 = 1 ∨ a % 5 = 2 ∨ a % 5 = 3 ∨ a % 5 = 4 from by omega) with h | h | h | h | h <;> rw [h] <;> rfl)
  simp only [Nat.add_zero] at hst
  obtain ⟨m, rfl⟩ : ∃ k, m = k + 1 := ⟨m - 1, by omega⟩
  unfold zeros at hst ⊢
  simp [Builtin.clear_, run_underlying Yba.underlying48, hst, Value.cells]

theorem heap_setCells (g k : Nat) (h : k ≠ g) : ∀ (vs : List Value) (o : Nat) (w : World), (w.setCells g o vs).heap[k]? = w.heap[k]?
  | [], _, _ => rfl
  | v :: r, o, w => by rw [World.setCells, heap_setCells g k h r, Below.heap_setCell _ _ _ _ h]

theorem Kp.setCells {S : Nat → Prop} (w : World) (g o : Nat) (vs : List Value) (hg : S g) : Kp S w (w.setCells g o vs) := by
  induction vs generalizing o w with
  | nil => exact Kp.refl _ _
  | cons v r ih => exact ((Kp.refl S w).setCell (p := ⟨g, o, none⟩) (fun _ => hg) v).trans (ih _ _)

theorem cell_setCells_low (g : Nat) (x : Nat) : ∀ (vs : List Value) (o : Nat) (w : World), x < o → (w.setCells g o vs).cell? ⟨g, x, none⟩ = w.cell? ⟨g, x, none⟩
  | [], _, _, _ => rfl
  | v :: r, o, w, h => by rw [World.setCells, cell_setCells_low g x r (o + 1) _ (by omega), World.cell?_setCell_other _ _ _ _ (by intro e; injection e; omega)]

theorem Con.setCells {w : World} {g q o : Nat} {v t : Int} {vs : List Value} (h : Con w g q v t) (ho : q * 5 + 5 ≤ o) : Con (w.setCells g o vs) g q v t :=
  ⟨(cell_setCells_low _ _ _ _ _ (by omega)).trans h.c0, (cell_setCells_low _ _ _ _ _ (by omega)).trans h.c1, (cell_setCells_low _ _ _ _ _ (by omega)).trans h.c2, (cell_setCells_low _ _ _ _ _ (by omega)).trans h.c3, (cell_setCells_low _ _ _ _ _ (by omega)).trans h.c4⟩

set_option maxRecDepth 100000 in
set_option maxHeartbeats 1000000 in
/-- 'slices.DeleteFunc(contacts, its id is the message's)' over a row that lies. -/
theorem delete_any (vs ts : Nat → Int) (n cap g M : Nat) (id : Int) (w : World) (hn : n ≤ 1024) (hcap : n ≤ cap) (hg : g < w.heap.size) (hM : M < w.heap.size) (hMg : M ≠ g) (hid : w.cell? ⟨M, 8, none⟩ = some (.int .u64 id)) (hc : ∀ i, i < n → Con w g i (vs i) (ts i)) (hf : ∀ o, w.frozen? ⟨g, o, none⟩ = false) :
    Calls Yba.prog 9 #[.slice (some ⟨g, 0, none⟩) n cap, .func (.func 10) #[] #[.pointer (some ⟨M, 0, none⟩)]] w fun e w' => e = .returned (.slice (some ⟨g, 0, none⟩) (kept vs id n).length cap) ∧ (∀ q x, (kept vs id n)[q]? = some x → Con w' g q (vs x) (ts x)) ∧ Kp (fun b => b = g) w w' := by
  go_enter Yba.func9, Yba.ntmps9
  go_wp2_with fail
  refine (index_any vs ts n cap g M id w hn hg hM hid hc).mono ?_
  rintro e w1 ⟨⟨r, rfl, hr⟩, hB1⟩
  rcases hr with ⟨rfl, hr⟩ | ⟨i0, rfl, hi0, hvi, hr⟩
  · have HR : Hid (∀ j, j < n → vs j ≠ id) := hr
    clear hr
    go_wp2
    go_ret
    rw [kept_none HR.out]
    exact ⟨by simp, fun q x hq => by
      have hq' : q < n := by simpa using (List.getElem?_eq_some_iff.1 hq).1
      have : x = q := by simp [hq'] at hq; omega
      subst this
      exact (hc _ hq').below hB1 hg, Kp.of_below hB1⟩
  · have hstart : DelInv vs ts id n g w w1 i0 (i0 + 1) := by
      have hk0 : kept vs id i0 = List.range i0 := kept_none hr
      refine ⟨hi0, by omega, ?_, ?_, ?_, ?_, fun o => (hB1.frozen (p := ⟨g, o, none⟩) hg).trans (hf o), Kp.of_below hB1⟩
      · rw [kept_hit hvi, hk0]; simp
      · intro q x hq
        rw [kept_hit hvi, hk0] at hq
        have hq' : q < i0 := by simpa using (List.getElem?_eq_some_iff.1 hq).1
        have : x = q := by simp [hq'] at hq; omega
        subst this
        exact (hc _ (by omega)).below hB1 hg
      · intro q h1 h2; exact (hc _ h2).below hB1 hg
      · intro q hq; exact ⟨_, _, (hc _ hq).below hB1 hg⟩
    have hz : (0 : Int) ≤ (i0 : Int) := by omega
    have hne : ((i0 : Int) == -1) = false := by simp
    clear hr hc hf hvi
    go_wp2
    go_loopw [5, 6, 7] (fun a b _ wr => ∃ i j : Nat, a = .int .i64 i ∧ b = .int .i64 j ∧ DelInv vs ts id n g w wr i j) (fun _ b _ _ => n - (intOf b).toNat)
    case atStart => exact ⟨i0, i0 + 1, rfl, by go_num, hstart⟩
    case round =>
      clear hstart
      obtain ⟨i, j, rfl, rfl, hI⟩ := hrel
      have hij := hI.lt
      have hjn := hI.le
      have hgr : g < wr.heap.size := Nat.lt_of_lt_of_le hg hI.kp.size
      have hidr : wr.cell? ⟨M, 8, none⟩ = some (.int .u64 id) := (World.cell?_of_block (w := w) (hI.kp.block M hM hMg)).trans hid
      by_cases hlt : j < n
      · obtain ⟨c0, c1, c2, c3, c4⟩ := hI.post j (Nat.le_refl _) hlt
        obtain ⟨v, hv⟩ : ∃ v, v = vs j := ⟨_, rfl⟩
        obtain ⟨t, ht⟩ : ∃ t, t = ts j := ⟨_, rfl⟩
        rw [← hv] at c2
        rw [← ht] at c3
        have HV : Hid (v = vs j) := hv
        have HT : Hid (t = ts j) := ht
        have hk0 : (0 : Int) ≤ (j : Int) := by omega
        have hk7 : (j : Int) < (n : Int) := by omega
        have hi00 : (0 : Int) ≤ (i : Int) := by omega
        have hi7 : (i : Int) < (n : Int) := by omega
        have hMr : M < wr.heap.size := Nat.lt_of_lt_of_le hM hI.kp.size
        clear hv ht hid hB1
        go_wp2_with fail
        refine (merge1_any _ _ _ _ _ id M _ (by simp; omega) (by rw [World.cell?_alloc_past _ _ _ (by simpa using hMr)]; exact hidr)).mono ?_
        rintro e w2 ⟨rfl, hw2⟩
        have hB2 : Below wr.heap.size wr w2 := by rw [hw2]; exact ((Below.refl _ _).alloc (Nat.le_refl _) _).alloc (by simp) _
        have hbx : Blk w2 wr.heap.size 5 (fun j => (#[.string ⟨#[99]⟩, .string ⟨#[]⟩, .int .u64 v, .int .i64 t, .int .i64 0] : Array Value).getD j undef) := by
          rw [hw2]; exact (Blk.fresh wr #[.string ⟨#[99]⟩, .string ⟨#[]⟩, .int .u64 v, .int .i64 t, .int .i64 0] 61).alloc (by simp) _
        clear hw2 c0 c1 c2 c3 c4 hidr
        by_cases hvi : v = id
        · have HF : Hid _ := hI.hit hlt (HV.out ▸ hvi) hgr hB2
          subst hvi
          clear hbx hB2 hI
          go_wp2
          go_roundw
          case rel => exact ⟨i, j + 1, rfl, by go_num, HF.out⟩
          case measure => simp [intOf]; omega
        · have HF : Hid _ := hI.miss hlt (HV.out ▸ hvi) hgr hB2
          obtain ⟨v', t', hcon⟩ := hI.all i (by omega)
          obtain ⟨d0, d1, d2, d3, d4⟩ := hcon.below hB2 hgr
          have b0 := hbx.1 0 (by omega)
          have b1 := hbx.1 1 (by omega)
          have b2 := hbx.1 2 (by omega)
          have b3 := hbx.1 3 (by omega)
          have b4 := hbx.1 4 (by omega)
          have ff : ∀ o, w2.frozen? ⟨g, o, none⟩ = false := fun o => (hB2.frozen (p := ⟨g, o, none⟩) hgr).trans (hI.fr o)
          have f0 := ff (i * 5)
          have f1 := ff (i * 5 + 1)
          have f2 := ff (i * 5 + 2)
          have f3 := ff (i * 5 + 3)
          have f4 := ff (i * 5 + 4)
          clear hbx hB2 hI ff hcon
          go_wp2
          go_roundw
          case rel => exact ⟨i + 1, j + 1, by go_num, by go_num, by have := HF.out; rw [← HV.out, ← HT.out] at this; exact this⟩
          case measure => simp [intOf]; omega
      · obtain rfl : j = n := by omega
        have hi00 : (0 : Int) ≤ (i : Int) := by omega
        have hi7 : (i : Int) < (j : Int) := by omega
        obtain ⟨q, hq⟩ : ∃ q, j - i = q + 1 := ⟨j - i - 1, by omega⟩
        have hcl := clear_con wr g (i * 5) (j - i) (cap - i) (by omega) (fun o ho => by
          obtain ⟨v, t, hc⟩ := hI.all (i + o / 5) (by omega)
          have := hc.cells (o % 5) (by omega)
          rwa [show (i + o / 5) * 5 + o % 5 = i * 5 + o by omega] at this) (fun o => hI.fr _)
        clear hq
        have HI : Hid _ := hI
        clear hI hidr hB1 hid hjn
        go_wp2
        go_ret
        refine ⟨by rw [← HI.out.len]; rfl, fun q x hq => ?_, HI.out.kp.trans (Kp.setCells _ _ _ _ rfl)⟩
        have hql : q < i := by rw [HI.out.len]; exact (List.getElem?_eq_some_iff.1 hq).1
        exact (HI.out.pre q x hq).setCells (by omega)
end Go.Proofs.Ybulkbpca
