import Derived.Test.YbulkbpdqGreatPrecB
namespace Go.Proofs.YbulkbpdqGreat
open Go.ChangeShapes Go.WideShapes Go.ChangeAt Go.RowKit Go.Shelf
set_option linter.unusedVariables false
attribute [local go_sem] Oper.semAt_some

set_option maxRecDepth 100000 in
theorem precedents_any (v b : Nat) (w : World) :
    Calls Ybaz.prog 44 #[ptr v, ptr b] w fun e w' => e = .returned (.func (.func 72) #[] #[.pointer (some ⟨w.heap.size, 0, none⟩)]) ∧ w' = w.alloc (.cells #[ptr b] 34) := by
  unfold ptr
  go_enter Ybaz.func44, Ybaz.ntmps44
  go_wp2
  go_ret
  exact ⟨rfl, rfl⟩

theorem precA_stops (n C : Nat) (E : Env) (W0 : E.Wf) (og : Nat → ByteArray) (s : Sta) (k : Nat) (hk : k < E.n) (hS : Shape E og s) (how : s.ow k = true) (hno : ∀ j, E.src k = some j → s.ow j = false) (w : World) (h : St E s w) (cC : w.cell? ⟨C, 0, none⟩ = some (ptr (E.ad (.tx k)))) (hC : C < w.heap.size) :
    SeqStopsK Fence.wide n Ybaz.prog 72 #[.pointer (some ⟨C, 0, none⟩)] (fun _ : Unit => #[Value.pointer none]) (fun _ _ => True) (fun xs => xs = []) (fun _ => False) 0 w := fun l J Jx W hW hJ hJx hY h0 =>
  (callsIn_wide.2 (precA_any l C E W0 og s k hk hS how hno (J []) W (fun A B row => hJ [] A B row) (h.below W0 hW) ((hW.cell (p := ⟨C, 0, none⟩) hC).trans cC) h0)).mono fun e W' hh => ⟨hh.1, .inl ⟨[], rfl, hh.2⟩⟩

theorem precB_stops (n : Nat) (hn : 1 ≤ n) (C : Nat) (E : Env) (W0 : E.Wf) (og : Nat → ByteArray) (s : Sta) (k : Nat) (hk : k < E.n) (hS : Shape E og s) (how : s.ow k = true) (j : Nat) (hs : E.src k = some j) (hoj : s.ow j = true) (w : World) (h : St E s w) (cC : w.cell? ⟨C, 0, none⟩ = some (ptr (E.ad (.tx k)))) (hC : C < w.heap.size) :
    SeqStopsK Fence.wide n Ybaz.prog 72 #[.pointer (some ⟨C, 0, none⟩)] (fun _ : Unit => #[Value.pointer (some ⟨E.ad (.tx j), 0, none⟩)]) (fun _ _ => True) (fun xs => xs = [()]) (fun _ => True) 1 w := fun l J Jx W hW hJ hJx hY h0 =>
  precB_in n hn l C E W0 og s k hk hS how j hs hoj J Jx W hJ hY (h.below W0 hW) ((hW.cell (p := ⟨C, 0, none⟩) hC).trans cC) h0

set_option maxRecDepth 100000 in
set_option maxHeartbeats 2000000 in
theorem precedesA_in (n : Nat) (hn : 6 ≤ n) (E : Env) (W0 : E.Wf) (og : Nat → ByteArray) (s : Sta) (k : Nat) (hk : k < E.n) (hS : Shape E og s) (how : s.ow k = true) (hno : ∀ j, E.src k = some j → s.ow j = false) (w : World) (h : St E s w) :
    CallsIn Fence.wide n Ybaz.prog 28 #[ptr (E.ad .sch), ptr (E.ad (.tx k))] w fun e w' => e = .returned (.pointer none) ∧ Below w.heap.size w w' := by
  have h1 : 1 ≤ n := by omega
  unfold ptr
  refine callsIn_of_wp_marks Ybaz.func28 rfl trivial ?_ rfl
  simp only [Ybaz.ntmps28, List.size_toArray, List.length_cons, List.length_nil, Nat.reduceAdd, Nat.reduceSub, Array.replicate_succ, Array.replicate_zero, List.push_toArray, List.append_toArray, List.nil_append, List.cons_append]
  gi_wp2_with fail
  refine ⟨trivial, (callsIn_wide.2 (precedents_any (E.ad .sch) (E.ad (.tx k)) _)).mono ?_⟩
  rintro e w2 ⟨rfl, hw2⟩
  have hB2 : Below w.heap.size w w2 := by rw [hw2]; exact ((Below.refl _ w).alloc (Nat.le_refl _) _).alloc (by simp) _
  have hst : St E s w2 := h.below W0 hB2
  have hs2 : w2.heap.size = w.heap.size + 2 := by rw [hw2]; simp
  have hres : Blk w2 w.heap.size 1 (fun _ => .pointer none) := by
    rw [hw2]
    exact ((Blk.fresh w #[.pointer none] 34).congr (fun j hj => by have h : j = 0 := (by simpa using hj); subst h; rfl)).alloc (by simp) _
  have cC : w2.cell? ⟨w.heap.size + 1, 0, none⟩ = some (ptr (E.ad (.tx k))) := by
    have hb := Blk.fresh (w.alloc (.cells #[Value.pointer none] 34)) #[ptr (E.ad (.tx k))] 34
    rw [World.size_alloc] at hb
    rw [hw2]
    exact hb.1 0 (by simp)
  have hsB : (w.alloc (.cells #[Value.pointer none] 34)).heap.size = w.heap.size + 1 := by simp
  rw [hsB]
  have HS : Hid (w2.heap.size = w.heap.size + 2) := hs2
  have HRES : Hid (Blk w2 w.heap.size 1 (fun _ => .pointer none)) := hres
  have HST : Hid (St E s w2) := hst
  have HB2 : Hid (Below w.heap.size w w2) := hB2
  clear hw2 hsB hs2 hres hst hB2 h
  gi_wp2_with fail
  have hC2 : w.heap.size + 1 < w2.heap.size := by have := HS.out; omega
  refine wpIn_rangeFunc_ownH rfl h1 (gf := 72) (lb := #[.pointer (some ⟨w.heap.size + 1, 0, none⟩)]) rfl trivial (enters_of Ybaz.func72 (by kernel_rfl) rfl)
    (precA_stops (n - 1) (w.heap.size + 1) E W0 og s k hk hS how hno w2 HST.out cC hC2)
    (fun _ _ => trivial) (fun _ _ _ _ _ _ _ _ => trivial) (Below.refl _ _) (fun _ => rfl)
    (fun _ W => Below w2.heap.size w2 W)
    (fun _ _ _ => False)
    (ownFrom_below (Nat.le_refl _) (Nat.le_refl _))
    (fun _ _ _ _ _ hs _ _ => hs)
    (Below.refl _ _)
    (fun _ _ _ => True)
    (fun _ _ _ _ _ _ _ _ _ => trivial)
    ?assign ?body ?done ?stop
  case assign =>
    rintro l pre x W K hB hK
    gi_wp2
    exact hK _ _ (KeepsFrom.refl _ _) trivial hB trivial
  case body =>
    rintro l pre x a' W hl hr hB hA hlt
    exact absurd hlt (by omega)
  case done =>
    rintro D xs W hD hxs hB hK
    have hr3 := HRES.out.below hB (by omega)
    have v0 := hr3.1 0 (by omega)
    have f0 := hr3.2 0
    have hBw := HB2.out.trans (hB.mono (by have := HS.out; omega))
    have HK : Hid (W.heap[D]? = some (.deferred (some []))) := hK
    have hlt : w.heap.size < W.heap.size := hr3.lt (by omega)
    clear hK hxs
    gi_wp2
    have hV4 := hr3.set 0 (by omega) (.pointer none)
    have hK4 : (W.setCell ⟨w.heap.size, 0, none⟩ (.pointer none)).heap[D]? = some (.deferred (some [])) := by
      rw [Below.heap_setCell _ _ _ _ (by show D ≠ w.heap.size; have := HS.out; omega)]; exact HK.out
    have hB4 : Below w.heap.size w (W.setCell ⟨w.heap.size, 0, none⟩ (.pointer none)) := hBw.setCell (p := ⟨w.heap.size, 0, none⟩) (Nat.le_refl _) (.pointer none)
    generalize World.setCell W _ _ = W4 at hV4 hK4 hB4 ⊢
    refine ⟨by simp, .inl ⟨_, _, rfl, run_takeDeferred hK4, ?_⟩⟩
    have e0 : (W4.putObj D (.deferred none)).cell? ⟨w.heap.size, 0, none⟩ = some (.pointer none) := cell_kept (hV4.1 0 (by omega)) (grownBy_putObj' _ D (.deferred none)) (fun r e => by cases e; exact ⟨_, hK4, rfl⟩)
    refine ⟨.pointer none, by simp [results, Ybaz.results28, go_sem, e0], rfl, ?_⟩
    exact hB4.trans (belowK_b (w := w) (Nat.le_refl _) W4 D _ _ (by have := HS.out; omega) hK4 rfl rfl)
  case stop =>
    rintro D c pre W _ _ h _
    exact h.elim

set_option maxRecDepth 100000 in
set_option maxHeartbeats 2000000 in
theorem precedesB_in (n : Nat) (hn : 6 ≤ n) (E : Env) (W0 : E.Wf) (og : Nat → ByteArray) (s : Sta) (k : Nat) (hk : k < E.n) (hS : Shape E og s) (how : s.ow k = true) (j : Nat) (hs : E.src k = some j) (hoj : s.ow j = true) (w : World) (h : St E s w) :
    CallsIn Fence.wide n Ybaz.prog 28 #[ptr (E.ad .sch), ptr (E.ad (.tx k))] w fun e w' => e = .returned (.pointer (some ⟨E.ad (.tx j), 0, none⟩)) ∧ Below w.heap.size w w' := by
  have h1 : 1 ≤ n := by omega
  unfold ptr
  refine callsIn_of_wp_marks Ybaz.func28 rfl trivial ?_ rfl
  simp only [Ybaz.ntmps28, List.size_toArray, List.length_cons, List.length_nil, Nat.reduceAdd, Nat.reduceSub, Array.replicate_succ, Array.replicate_zero, List.push_toArray, List.append_toArray, List.nil_append, List.cons_append]
  gi_wp2_with fail
  refine ⟨trivial, (callsIn_wide.2 (precedents_any (E.ad .sch) (E.ad (.tx k)) _)).mono ?_⟩
  rintro e w2 ⟨rfl, hw2⟩
  have hB2 : Below w.heap.size w w2 := by rw [hw2]; exact ((Below.refl _ w).alloc (Nat.le_refl _) _).alloc (by simp) _
  have hst : St E s w2 := h.below W0 hB2
  have hs2 : w2.heap.size = w.heap.size + 2 := by rw [hw2]; simp
  have hres : Blk w2 w.heap.size 1 (fun _ => .pointer none) := by
    rw [hw2]
    exact ((Blk.fresh w #[.pointer none] 34).congr (fun j hj => by have h : j = 0 := (by simpa using hj); subst h; rfl)).alloc (by simp) _
  have cC : w2.cell? ⟨w.heap.size + 1, 0, none⟩ = some (ptr (E.ad (.tx k))) := by
    have hb := Blk.fresh (w.alloc (.cells #[Value.pointer none] 34)) #[ptr (E.ad (.tx k))] 34
    rw [World.size_alloc] at hb
    rw [hw2]
    exact hb.1 0 (by simp)
  have hsB : (w.alloc (.cells #[Value.pointer none] 34)).heap.size = w.heap.size + 1 := by simp
  rw [hsB]
  have HS : Hid (w2.heap.size = w.heap.size + 2) := hs2
  have HRES : Hid (Blk w2 w.heap.size 1 (fun _ => .pointer none)) := hres
  have HST : Hid (St E s w2) := hst
  have HB2 : Hid (Below w.heap.size w w2) := hB2
  clear hw2 hsB hs2 hres hst hB2 h
  gi_wp2_with fail
  have hC2 : w.heap.size + 1 < w2.heap.size := by have := HS.out; omega
  refine wpIn_rangeFunc_ownH rfl h1 (gf := 72) (lb := #[.pointer (some ⟨w.heap.size + 1, 0, none⟩)]) rfl trivial (enters_of Ybaz.func72 (by kernel_rfl) rfl)
    (precB_stops (n - 1) (by omega) (w.heap.size + 1) E W0 og s k hk hS how j hs hoj w2 HST.out cC hC2)
    (fun _ _ => trivial) (fun _ _ _ _ _ _ _ _ => trivial) (Below.refl _ _) (fun _ => rfl)
    (fun pre W => pre = [] ∧ Below w2.heap.size w2 W)
    (fun c _ W => c = .ret ∧ W.cell? ⟨w.heap.size, 0, none⟩ = some (.pointer (some ⟨E.ad (.tx j), 0, none⟩)) ∧ Below w.heap.size w W)
    (fun pre X Y row hs hg hr => ⟨hs.1, ownFrom_below (Nat.le_refl _) (Nat.le_refl _) () X Y row hs.2 hg hr⟩)
    (fun c pre X Y row hs hg hr => ⟨hs.1, cell_kept hs.2.1 hg (fun r e => (hr r e).2), ownFrom_below (Nat.le_refl _) (by have := HS.out; omega) () X Y row hs.2.2 hg hr⟩)
    ⟨rfl, Below.refl _ _⟩
    (fun _ a' _ => a' = { tmps := #[Value.pointer (some ⟨E.ad .sch, 0, none⟩), Value.pointer (some ⟨E.ad (.tx k), 0, none⟩), undef, undef, Value.pointer (some ⟨w.heap.size, 0, none⟩), .pointer (some ⟨E.ad (.tx j), 0, none⟩), Value.pointer (some ⟨E.ad .sch, 0, none⟩), Value.pointer (some ⟨E.ad (.tx k), 0, none⟩), Value.func (Fn.func 72) #[] #[Value.pointer (some ⟨w.heap.size + 1, 0, none⟩)], .pointer (some ⟨E.ad (.tx j), 0, none⟩), undef], defers := [] })
    (fun _ _ _ _ _ _ hs _ _ => hs)
    ?assign ?body ?done ?stop
  case assign =>
    rintro l pre x W K hB hK
    gi_wp2
    exact hK _ _ (KeepsFrom.refl _ _) trivial hB rfl
  case body =>
    rintro l pre x a' W hl hr ⟨_, hB⟩ rfl hlt
    have hr3 := HRES.out.below hB (by omega)
    have v0 := hr3.1 0 (by omega)
    have f0 := hr3.2 0
    have hlt : w.heap.size < W.heap.size := hr3.lt (by omega)
    have hBw := HB2.out.trans (hB.mono (by have := HS.out; omega))
    gi_wp2
    exact ⟨(KeepsOthers.setCell _ _ _).from _, rfl, World.cell?_setCell_same _ _ _ v0, hBw.setCell (p := ⟨w.heap.size, 0, none⟩) (Nat.le_refl _) _⟩
  case done =>
    rintro D xs W hD hxs ⟨hx, _⟩ hK
    rw [hx] at hxs; cases hxs
  case stop =>
    rintro D c pre W hD _ ⟨rfl, hr3, hBw⟩ hK
    have HK : Hid (W.heap[D]? = some (.deferred (some []))) := hK
    clear hK
    gi_wp2
    refine ⟨by simp, .inl ⟨_, _, rfl, run_takeDeferred HK.out, ?_⟩⟩
    have e0 : (W.putObj D (.deferred none)).cell? ⟨w.heap.size, 0, none⟩ = some (.pointer (some ⟨E.ad (.tx j), 0, none⟩)) := cell_kept hr3 (grownBy_putObj' _ D (.deferred none)) (fun r e => by cases e; exact ⟨_, HK.out, rfl⟩)
    refine ⟨.pointer (some ⟨E.ad (.tx j), 0, none⟩), by simp [results, Ybaz.results28, go_sem, e0], rfl, ?_⟩
    exact hBw.trans (belowK_b (w := w) (Nat.le_refl _) W D _ _ (by have := HS.out; omega) HK.out rfl rfl)

theorem precedes_none (E : Env) (W0 : E.Wf) (og : Nat → ByteArray) (s : Sta) (k : Nat) (hk : k < E.n) (hS : Shape E og s) (how : s.ow k = true) (hno : ∀ j, E.src k = some j → s.ow j = false) (w : World) (h : St E s w) :
    Calls Ybaz.prog 28 #[ptr (E.ad .sch), ptr (E.ad (.tx k))] w fun e w' => e = .returned (.pointer none) ∧ Below w.heap.size w w' :=
  callsIn_wide.1 (precedesA_in 6 (Nat.le_refl _) E W0 og s k hk hS how hno w h)
theorem precedes_some (E : Env) (W0 : E.Wf) (og : Nat → ByteArray) (s : Sta) (k : Nat) (hk : k < E.n) (hS : Shape E og s) (how : s.ow k = true) (j : Nat) (hs : E.src k = some j) (hoj : s.ow j = true) (w : World) (h : St E s w) :
    Calls Ybaz.prog 28 #[ptr (E.ad .sch), ptr (E.ad (.tx k))] w fun e w' => e = .returned (.pointer (some ⟨E.ad (.tx j), 0, none⟩)) ∧ Below w.heap.size w w' :=
  callsIn_wide.1 (precedesB_in 6 (Nat.le_refl _) E W0 og s k hk hS how j hs hoj w h)
end Go.Proofs.YbulkbpdqGreat
