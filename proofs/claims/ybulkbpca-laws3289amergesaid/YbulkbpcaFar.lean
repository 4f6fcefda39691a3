import Derived.Test.YbulkbpcaRoutes
namespace Go.Proofs.Ybulkbpca
open Go.ChangeShapes Go.WideShapes Go.ChangeAt Go.RowKit Go.Shelf
set_option linter.unusedVariables false
attribute [local go_sem] Oper.semAt_some
attribute [local go_sem ↓] eq_peer
attribute [local go_sem] guard_peer field_key

theorem bytesLess_irrefl : ∀ l : List UInt8, Op.bytesLess l l = false
  | [] => rfl
  | x :: l => by
    unfold Op.bytesLess
    simp [bytesLess_irrefl l]

/-- Round the whole ring every key lies. -/
theorem arc_round (f k : ByteArray) : arc f k f = true := by
  unfold arc ltB
  rw [bytesLess_irrefl]
  simp

set_option maxRecDepth 100000 in
set_option maxHeartbeats 2000000 in
/-- 'furthest(key, false)' at a node whose tables name its successor alone: the successor. -/
theorem furthest_in (n : Nat) (hn : 6 ≤ n) (N : Nat) (c : Nat → Value) (sk sa k m : ByteArray) (ad : Option Addr) (cap : Nat) (w : World) (hb : Blk w N 258 c) (hN : N < w.heap.size)
    (h21 : c 21 = .slice (some ⟨N, 66, none⟩) 1 18) (h23 : c 23 = .int .i64 1) (h32 : c 32 = .slice ad 0 cap) (h34 : c 34 = .int .i64 0) (h66 : c 66 = .string sk) (h67 : c 67 = .string sa) (h68 : c 68 = .string m) :
    CallsIn Fence.wide n Yba.prog 14 #[.pointer (some ⟨N, 0, none⟩), .string k, .bool false] w fun e w' => e = .returned (.agg #[.string sk, .string sa]) ∧ Below w.heap.size w w' := by
  have h1 : 1 ≤ n := by omega
  refine callsIn_of_wp_marks Yba.func14 rfl trivial ?_ rfl
  simp only [Yba.ntmps14, List.size_toArray, List.length_cons, List.length_nil, Nat.reduceAdd, Nat.reduceSub, Array.replicate_succ, Array.replicate_zero, List.push_toArray, List.append_toArray, List.nil_append, List.cons_append]
  have hB0 : Below w.heap.size w (((w.alloc (.cells #[.string k] 9)).alloc (.cells #[.bool false] 4)).alloc (.cells #[.string ⟨#[]⟩, .string ⟨#[]⟩] 25)) := (((Below.refl _ w).alloc (Nat.le_refl _) _).alloc (by simp) _).alloc (by simp; omega) _
  have hb0 := hb.below hB0 hN
  have hN0 : N < (((w.alloc (.cells #[.string k] 9)).alloc (.cells #[.bool false] 4)).alloc (.cells #[.string ⟨#[]⟩, .string ⟨#[]⟩] 25)).heap.size := by simp; omega
  have hV0 := (peer_fresh ((w.alloc (.cells #[.string k] 9)).alloc (.cells #[.bool false] 4)) ⟨#[]⟩ ⟨#[]⟩ 25)
  simp only [World.size_alloc] at hV0
  have k0 : (((w.alloc (.cells #[.string k] 9)).alloc (.cells #[.bool false] 4)).alloc (.cells #[.string ⟨#[]⟩, .string ⟨#[]⟩] 25)).cell? ⟨w.heap.size, 0, none⟩ = some (.string k) := by rw [World.cell?_alloc_past _ _ _ (by simp; omega), World.cell?_alloc_past _ _ _ (by simp), World.cell?_alloc_new]; rfl
  have r0 : (((w.alloc (.cells #[.string k] 9)).alloc (.cells #[.bool false] 4)).alloc (.cells #[.string ⟨#[]⟩, .string ⟨#[]⟩] 25)).cell? ⟨w.heap.size + 1, 0, none⟩ = some (.bool false) := by rw [World.cell?_alloc_past _ _ _ (by simp), World.cell?_alloc_at _ _ _ _ (by simp)]; rfl
  have s0 : (((w.alloc (.cells #[.string k] 9)).alloc (.cells #[.bool false] 4)).alloc (.cells #[.string ⟨#[]⟩, .string ⟨#[]⟩] 25)).heap.size = w.heap.size + 3 := by simp
  gi_wp2_with fail
  refine ⟨trivial, (callsIn_wide.2 (succ_any N sk sa _ ((hb0.1 21 (by omega)).trans (by rw [h21])) ((hb0.1 66 (by omega)).trans (by rw [h66])) ((hb0.1 67 (by omega)).trans (by rw [h67])) hN0)).mono ?_⟩
  rintro e w1 ⟨rfl, hB1⟩
  generalize World.alloc _ (.cells #[.string ⟨#[]⟩, .string ⟨#[]⟩] 25) = wa at hB0 hb0 hN0 hV0 k0 r0 s0 hB1
  have hs1 := hB1.size
  have hb1 := hb0.below hB1 hN0
  have hV1 := hV0.below hB1 (by omega)
  have k1 := (hB1.cell (p := ⟨w.heap.size, 0, none⟩) (by simp; omega)).trans k0
  have r1 := (hB1.cell (p := ⟨w.heap.size + 1, 0, none⟩) (by simp; omega)).trans r0
  have hBw1 : Below w.heap.size w w1 := hB0.trans (hB1.mono (by omega))
  have hsz1 : w.heap.size + 3 ≤ w1.heap.size := by omega
  clear hB0 hb0 hN0 hV0 k0 r0 s0 hB1 hs1
  gi_wp2_with fail
  refine ⟨trivial, (routes_in (n - 1) N _).mono ?_⟩
  rintro e w2 ⟨rfl, hw2⟩
  have hbest : Blk w2 w1.heap.size 2 (peerC sk sa) := by rw [hw2]; exact (peer_fresh w1 sk sa 25).alloc (by simp) _
  have hbox : Blk w2 (w1.heap.size + 1) 1 (fun _ => .pointer (some ⟨N, 0, none⟩)) := by
    rw [hw2]
    have h := (Blk.fresh (w1.alloc (.cells #[.string sk, .string sa] 25)) #[.pointer (some ⟨N, 0, none⟩)] 31)
    rw [World.size_alloc] at h
    exact h.congr (fun j hj => by have h : j = 0 := (by simpa using hj); subst h; rfl)
  have hB2 : Below w1.heap.size w1 w2 := by rw [hw2]; exact ((Below.refl _ w1).alloc (Nat.le_refl _) _).alloc (by simp) _
  have hs2 : w2.heap.size = w1.heap.size + 2 := by rw [hw2]; simp
  have hsB : (w1.alloc (.cells #[.string sk, .string sa] 25)).heap.size = w1.heap.size + 1 := by simp
  rw [hsB]
  clear hw2 hsB
  have hNw1 : N < w1.heap.size := by omega
  have hb2 := hb1.below hB2 hNw1
  have hV2 := hV1.below hB2 (by omega)
  have k2 := (hB2.cell (p := ⟨w.heap.size, 0, none⟩) (by simp; omega)).trans k1
  have r2 := (hB2.cell (p := ⟨w.heap.size + 1, 0, none⟩) (by simp; omega)).trans r1
  have hBw2 := hBw1.trans (hB2.mono (by omega))
  have HS : Hid (w2.heap.size = w1.heap.size + 2) := hs2
  clear hs2 hb1 hV1 k1 r1 hBw1 hB2
  gi_wp2_with fail
  have hN2 : N < w2.heap.size := by have := HS.out; omega
  have hC2 : w1.heap.size + 1 < w2.heap.size := by have := HS.out; omega
  refine wpIn_rangeFunc_ownH rfl h1 (gf := 27) (lb := #[.pointer (some ⟨w1.heap.size + 1, 0, none⟩)]) rfl trivial (enters_of Yba.func27 (by kernel_rfl) rfl)
    (routes_stops (n - 1) (by omega) (w1.heap.size + 1) N w2.heap.size sk sa ad cap w2 hC2 hN2 (Nat.le_refl _) (hbox.1 0 (by omega)) ((hb2.1 21 (by omega)).trans (by rw [h21])) ((hb2.1 23 (by omega)).trans (by rw [h23])) ((hb2.1 66 (by omega)).trans (by rw [h66])) ((hb2.1 67 (by omega)).trans (by rw [h67])) ⟨m, (hb2.1 68 (by omega)).trans (by rw [h68])⟩ ((hb2.1 32 (by omega)).trans (by rw [h32])) ((hb2.1 34 (by omega)).trans (by rw [h34])))
    belowK_t (belowK_b (Nat.le_refl _)) (Below.refl _ _) (fun _ => rfl)
    (fun _ W => Below w2.heap.size w2 W)
    (fun _ _ _ => False)
    (ownFrom_below (Nat.le_refl _) (Nat.le_refl _))
    (fun _ _ _ _ _ hs _ _ => hs)
    (Below.refl _ _)
    (fun _ a' W => ∃ Bx, w2.heap.size ≤ Bx ∧ (W.cell? ⟨Bx, 0, none⟩ = some (.string sk) ∧ W.cell? ⟨Bx, 1, none⟩ = some (.string sa)) ∧ a' = { tmps := #[Value.pointer (some ⟨N, 0, none⟩), .string k, .bool false, undef, .pointer (some ⟨w.heap.size, 0, none⟩), .pointer (some ⟨w.heap.size + 1, 0, none⟩), .pointer (some ⟨w.heap.size + 1 + 1, 0, none⟩), .pointer (some ⟨w1.heap.size, 0, none⟩), undef, .pointer (some ⟨Bx, 0, none⟩), .pointer (some ⟨N, 0, none⟩), .agg #[.string sk, .string sa], .pointer (some ⟨N, 0, none⟩), .func (.func 27) #[] #[.pointer (some ⟨w1.heap.size + 1, 0, none⟩)], .agg #[.int .u8 0, .int .i64 0], .agg #[.string sk, .string sa], undef, undef, undef, undef, undef, undef, undef, undef, undef, undef, undef, undef, undef, undef, undef, undef, undef], defers := [] })
    (fun x a' _ X Y row hs hg hr => by
      obtain ⟨Bx, q1, ⟨q2, q3⟩, q4⟩ := hs
      exact ⟨Bx, q1, ⟨cell_kept q2 hg (fun r e => (hr r e).2), cell_kept q3 hg (fun r e => (hr r e).2)⟩, q4⟩)
    ?assign ?body ?done ?stop
  case assign =>
    rintro l pre x W K hB hK
    gi_wp2
    have hp := peer_fresh W sk sa 25
    exact hK _ _ ((KeepsOthers.alloc _ _).from _) ((Below.refl _ W).alloc hB.size _) (hB.alloc hB.size _) ⟨W.heap.size, hB.size, ⟨hp.1 0 (by omega), hp.1 1 (by omega)⟩, rfl⟩
  case body =>
    rintro l pre x a' W hl ⟨r, hr⟩ hB ⟨Bx, hBx, ⟨q0, q1⟩, rfl⟩ hlt
    have b0 := (hB.cell (p := ⟨w1.heap.size, 0, none⟩) (by simp; have := HS.out; omega)).trans (hbest.1 0 (by omega))
    have k3 := (hB.cell (p := ⟨w.heap.size, 0, none⟩) (by simp; have := HS.out; omega)).trans k2
    have r3 := (hB.cell (p := ⟨w.heap.size + 1, 0, none⟩) (by simp; have := HS.out; omega)).trans r2
    have b0' : W.cell? ⟨w1.heap.size, 0, none⟩ = some (.string sk) := b0
    have harc := arc_round sk k
    have h2 : 1 ≤ n - 1 - 1 := by omega
    clear b0 hb2 hV2 hbest hbox
    gi_wp2_with fail
    refine ⟨trivial, (CallsIn.inRound l (callsIn_wide.2 (within_any _ _ _ _))).mono ?_⟩
    rintro e w3 ⟨rfl, rfl⟩
    gi_wp2
    exact ⟨KeepsFrom.refl _ _, Below.refl _ _, hB⟩
  case done =>
    rintro D xs W hD hxs hB hK
    have b0 : W.cell? ⟨w1.heap.size, 0, none⟩ = some (.string sk) := (hB.cell (p := ⟨w1.heap.size, 0, none⟩) (by simp; have := HS.out; omega)).trans (hbest.1 0 (by omega))
    have b1 : W.cell? ⟨w1.heap.size, 1, none⟩ = some (.string sa) := (hB.cell (p := ⟨w1.heap.size, 1, none⟩) (by simp; have := HS.out; omega)).trans (hbest.1 1 (by omega))
    have hV3 := hV2.below hB (by have := HS.out; omega)
    have v0 := hV3.1 0 (by omega)
    have v1 := hV3.1 1 (by omega)
    have fv0 := hV3.2 0
    have fv1 := hV3.2 1
    have hBw3 := hBw2.trans (hB.mono (by have := HS.out; omega))
    have HK : Hid (W.heap[D]? = some (.deferred (some []))) := hK
    clear hK hb2 hbest hbox k2 r2 hxs
    gi_wp2
    have hV4 := (hV3.set 0 (by omega) (.string sk)).set 1 (by omega) (.string sa)
    have hK4 : ((W.setCell ⟨w.heap.size + 1 + 1, 0, none⟩ (.string sk)).setCell ⟨w.heap.size + 1 + 1, 1, none⟩ (.string sa)).heap[D]? = some (.deferred (some [])) := by
      rw [Below.heap_setCell _ _ _ _ (by simp; have := HS.out; omega), Below.heap_setCell _ _ _ _ (by simp; have := HS.out; omega)]; exact HK.out
    have hB4 := (hBw3.setCell (p := ⟨w.heap.size + 1 + 1, 0, none⟩) (by simp; omega) (.string sk)).setCell (p := ⟨w.heap.size + 1 + 1, 1, none⟩) (by simp; omega) (.string sa)
    generalize World.setCell _ ⟨w.heap.size + 1 + 1, 1, none⟩ (.string sa) = W4 at hV4 hK4 hB4 ⊢
    refine ⟨by simp, .inl ⟨_, _, rfl, run_takeDeferred hK4, ?_⟩⟩
    have e0 : (W4.putObj D (.deferred none)).cell? ⟨w.heap.size + 1 + 1, 0, none⟩ = some (.string sk) := cell_kept (hV4.1 0 (by omega)) (grownBy_putObj' _ D (.deferred none)) (fun r e => by cases e; exact ⟨_, hK4, rfl⟩)
    have e1 : (W4.putObj D (.deferred none)).cell? ⟨w.heap.size + 1 + 1, 1, none⟩ = some (.string sa) := cell_kept (hV4.1 1 (by omega)) (grownBy_putObj' _ D (.deferred none)) (fun r e => by cases e; exact ⟨_, hK4, rfl⟩)
    refine ⟨.agg #[.string sk, .string sa], by simp [results, Yba.results14, go_sem, e0, e1], rfl, ?_⟩
    exact hB4.trans (belowK_b (w := w) (Nat.le_refl _) W4 D _ _ (by have := hBw2.size; omega) hK4 rfl rfl)
  case stop =>
    rintro D c pre W _ _ h _
    exact h.elim

theorem furthest_any (N : Nat) (c : Nat → Value) (sk sa k m : ByteArray) (ad : Option Addr) (cap : Nat) (w : World) (hb : Blk w N 258 c) (hN : N < w.heap.size)
    (h21 : c 21 = .slice (some ⟨N, 66, none⟩) 1 18) (h23 : c 23 = .int .i64 1) (h32 : c 32 = .slice ad 0 cap) (h34 : c 34 = .int .i64 0) (h66 : c 66 = .string sk) (h67 : c 67 = .string sa) (h68 : c 68 = .string m) :
    Calls Yba.prog 14 #[.pointer (some ⟨N, 0, none⟩), .string k, .bool false] w fun e w' => e = .returned (.agg #[.string sk, .string sa]) ∧ Below w.heap.size w w' :=
  callsIn_wide.1 (furthest_in 6 (Nat.le_refl _) N c sk sa k m ad cap w hb hN h21 h23 h32 h34 h66 h67 h68)
end Go.Proofs.Ybulkbpca
