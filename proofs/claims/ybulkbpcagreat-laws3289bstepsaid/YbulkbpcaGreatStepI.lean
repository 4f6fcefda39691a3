import Derived.Test.YbulkbpcaGreatStepB
import Derived.Test.YbulkbpcaGreatStepH
import Derived.Test.YbulkbpcaGreatDone
namespace Go.Proofs.YbulkbpcaGreat
open Go.ChangeShapes Go.WideShapes Go.ChangeAt Go.RowKit
set_option linter.unusedVariables false
attribute [local go_sem ↓] eq_peer
attribute [local go_sem] guard_peer field_key

/-- The sample's peers, the first k of them laid. -/
def smC (z : Nat → Int) (k : Nat) : Nat → Value := fun j =>
  if j < k * 2 then (if j % 2 = 0 then .string (pk (z (j / 2))) else .string (pa (z (j / 2)))) else .string ⟨#[]⟩

theorem smC_step {w : World} {g n k : Nat} {z : Nat → Int} {q : Int} (h : Blk w g (n * 2) (smC z k)) (hk : k < n) (hq : q = z k) :
    Blk ((w.setCell ⟨g, k * 2, none⟩ (.string (pk q))).setCell ⟨g, k * 2 + 1, none⟩ (.string (pa q))) g (n * 2) (smC z (k + 1)) := by
  refine ((h.set (k * 2) (by omega) (.string (pk q))).set (k * 2 + 1) (by omega) (.string (pa q))).congr fun j hj => ?_
  subst hq
  unfold upd smC
  by_cases h1 : j = k * 2 + 1
  · subst h1
    rw [if_pos rfl, if_pos (by omega), if_neg (by omega)]
    congr 2; congr 1; omega
  · rw [if_neg h1]
    by_cases h2 : j = k * 2
    · subst h2
      rw [if_pos rfl, if_pos (by omega), if_pos (by omega)]
      congr 2; congr 1; omega
    · rw [if_neg h2]
      by_cases h3 : j < k * 2
      · rw [if_pos h3, if_pos (show j < (k + 1) * 2 from by omega)]
      · rw [if_neg h3, if_neg (by omega)]

theorem madeCells_two (v : Value) (n j : Nat) (hj : j < n) : (madeCells #[v, v] n)[j]? = some v := by
  unfold madeCells
  simp [hj]
  have h2 : j % 2 < 2 := Nat.mod_lt _ (by omega)
  rcases (show j % 2 = 0 ∨ j % 2 = 1 from by omega) with h | h <;> simp [h]

theorem sm_prs {w : World} {g n : Nat} {z : Nat → Int} (h : Blk w g (n * 2) (smC z n)) : Prs w g n (fun j => pk (z j)) (fun j => pa (z j)) := fun j hj => by
  refine ⟨(h.1 (j * 2) (by omega)).trans ?_, (h.1 (j * 2 + 1) (by omega)).trans ?_⟩
  · unfold smC; rw [if_pos (by omega), if_pos (by omega)]; congr 3; congr 1; omega
  · unfold smC; rw [if_pos (by omega), if_neg (by omega)]; congr 3; congr 1; omega

set_option maxRecDepth 1000000 in
set_option maxHeartbeats 4000000 in
/-- The law from its first loop on. -/
theorem step_mid (w : World) (a2 : Option Addr) (len2 cap2 : Nat) (z2 : List Int) (H S N E W T U A : Nat) (uk ua : ByteArray) (f b : Tb) (c : Nat → Value) (wz : World)
    (hz2 : ArgAt w.heap.size w a2 len2 z2) (hzb2 : ∀ j : Nat, 0 ≤ z2[j]?.getD 0 ∧ z2[j]?.getD 0 ≤ 255) (hl2 : len2 ≤ 1024)
    (hX : HX w H S N E W T U A uk ua f b c wz) (hp : TickPre c H uk ua 0)
    (hfk : f.k < f.n) (hbk' : b.k < b.n) (hfn : f.n ≤ 1024) (hbn : b.n ≤ 1024) (huF : 0 ≤ f.u ∧ f.u < 3) (huB : 0 ≤ b.u ∧ b.u < 3)
    (j0 j1 j3 j4 j5 j6 j7 j8 j9 j10 j11 j12 j13 j14 j15 j16 j17 j18 j19 j20 j21 j55 j56 j57 j58 j59 j60 j61 j62 j63 j64 j65 j66 j67 j68 j69 j70 j71 j72 j73 j74 j75 j76 j77 j78 j79 j80 j81 j82 j83 j84 j85 j86 j87 j88 j89 j90 j91 j92 j93 j94 j95 j96 j97 j98 j99 j100 j101 j102 j103 j104 j105 j106 j107 : Value) :
    Code.wp Ybaz.prog ((Ybaz.f3.body.bind (afterRegion 10)).getD .skip) (bodyPost Ybaz.prog Ybaz.f3 fun e w' => e = .returned (.bool true) ∧ Below w.heap.size w w')
      ⟨#[j0, j1, .slice a2 len2 cap2, j3, j4, j5, j6, j7, j8, j9, j10, j11, j12, j13, j14, j15, j16, j17, j18, j19, j20, j21, .bool false, .pointer (some ⟨H, 0, none⟩), .pointer (some ⟨S, 0, none⟩), .pointer (some ⟨N, 0, none⟩), .pointer (some ⟨E, 0, none⟩), .pointer (some ⟨W, 0, none⟩), .pointer (some ⟨T, 0, none⟩), .pointer (some ⟨U, 0, none⟩), .pointer (some ⟨A, 0, none⟩), undef, undef, undef, undef, undef, undef, undef, undef, undef, undef, undef, undef, undef, undef, undef, undef, undef, undef, undef, undef, undef, undef, undef, undef, j55, j56, j57, j58, j59, j60, j61, j62, j63, j64, j65, j66, j67, j68, j69, j70, j71, j72, j73, j74, j75, j76, j77, j78, j79, j80, j81, j82, j83, j84, j85, j86, j87, j88, j89, j90, j91, j92, j93, j94, j95, j96, j97, j98, j99, j100, j101, j102, j103, j104, j105, j106, j107, undef, undef, undef, undef, undef, undef, undef, undef, undef, undef, undef, undef, undef, undef, undef, undef, undef, undef, undef, undef, undef, undef, undef, undef, undef, undef, undef, undef, undef, undef, undef, undef, undef, undef, undef, undef, undef, undef, undef, undef, undef, undef, undef, undef, undef, undef, undef, undef, undef, undef, undef, undef, undef, undef, undef, undef, undef, undef, undef, undef, undef, undef, undef, undef, undef, undef, undef, undef, undef, undef, undef, undef, undef, undef, undef, undef, undef, undef, undef, undef, undef, undef, undef, undef, undef, undef, undef, undef, undef, undef, undef, undef, undef, undef, undef, undef, undef, undef, undef, undef, undef, undef, undef, undef, undef, undef, undef, undef, undef, undef, undef, undef, undef, undef, undef, undef, undef, undef, undef, undef, undef, undef, undef, undef, undef, undef, undef, undef, undef, undef, undef, undef, undef, undef, undef, undef, undef, undef, undef, undef, undef, undef, undef, undef, undef, undef, undef, undef, undef, undef, undef, undef, undef, undef, undef, undef, undef, undef, undef, undef, undef, undef, undef, undef, undef, undef, undef, undef, undef, undef, undef, undef, undef, undef, undef, undef, undef, undef, undef, undef, undef, undef, undef, undef, undef, undef, undef, undef, undef, undef, undef, undef, undef, undef, undef, undef, undef, undef, undef, undef, undef, undef, undef, undef, undef, undef, undef, undef, undef, undef, undef, undef, undef, undef, undef, undef, undef, undef, undef, undef, undef, undef, undef, undef, undef, undef, undef, undef, undef, undef, undef, undef, undef, undef, undef, undef, undef, undef, undef, undef, undef, undef, undef, undef, undef, undef, undef, undef, undef, undef, undef, undef, undef, undef, undef, undef, undef, undef, undef, undef, undef, undef, undef, undef, undef, undef, undef, undef, undef, undef, undef, undef, undef, undef, undef, undef, undef, undef, undef, undef, undef, undef, undef, undef, undef, undef, undef, undef, undef, undef, undef, undef, undef, undef, undef, undef, undef, undef, undef, undef, undef, undef, undef, undef, undef, undef, undef, undef, undef, undef, undef, undef, undef, undef, undef, undef, undef, undef, undef, undef, undef, undef, undef, undef, undef, undef, undef, undef, undef, undef, undef, undef, undef, undef, undef, undef, undef, undef, undef, undef, undef, undef, undef, undef, undef, undef, undef, undef, undef, undef, undef, undef, undef, undef, undef, undef, undef, undef, undef, undef, undef, undef, undef, undef, undef, undef, undef, undef, undef, undef, undef], []⟩ wz := by
  obtain ⟨i0, hi, hz0, hz1, hzb⟩ := info_parts Ybaz.infoU32
  have hbyF : i0.bytes * f.n ≤ 281474976710656 := by rw [hzb]; omega
  have hmxF : f.n ≤ maxLen := by unfold maxLen; omega
  have hbyB : i0.bytes * b.n ≤ 281474976710656 := by rw [hzb]; omega
  have hmxB : b.n ≤ maxLen := by unfold maxLen; omega
  have hbyS : i0.bytes * len2 ≤ 281474976710656 := by rw [hzb]; omega
  have hmxS : len2 ≤ maxLen := by unfold maxLen; omega
  have HI : Hid _ := hi
  have HZ0 : Hid _ := hz0
  have HZ1 : Hid _ := hz1
  clear hi hz0 hz1 hzb
  conv => arg 2; whnf
  have hord := hX.ord
  have nE : E ≠ N := by omega
  have nE' : N ≠ E := by omega
  have nW : W ≠ N := by omega
  have nW' : N ≠ W := by omega
  have nT : T ≠ N := by omega
  have nT' : N ≠ T := by omega
  have nU : U ≠ N := by omega
  have nU' : N ≠ U := by omega
  have nA : A ≠ N := by omega
  have nA' : N ≠ A := by omega
  have ef : wz.cell? ⟨E, 0, none⟩ = some (.slice (some ⟨f.g, 0, none⟩) f.n f.n) := hX.e.1 0 (by omega)
  have c21 := hX.n.1 21 (by omega)
  have f21 := hX.n.2 21
  have hf0 := hX.set 21 (by omega) (.slice (some ⟨f.g, 0, none⟩) f.n f.n)
  go_wp2_with fail
  refine wp_loop_rounds 3 ?_
  rw [rounds_succ]
  go_wp2_with (at_make; refine wpList_make_full _ rfl _ _ 41 rfl wz.heap.size 83 i0 _ 1 Ybaz.underlying41 HI.out HZ0.out HZ1.out _ _ _ _ f.n rfl rfl rfl rfl hbyF hmxF (by simp) ?_; intro wf1 hown hgrow; have hf1 := hf0.grown hgrow; have q0 : wf1.cell? ⟨E, 0, none⟩ = some (.slice (some ⟨f.g, 0, none⟩) f.n f.n) := hf1.e.1 0 (by omega); have q1 : wf1.cell? ⟨W, 0, none⟩ = some (.int .i64 f.k) := hf1.wk.1 0 (by omega); have q2 : wf1.cell? ⟨T, 0, none⟩ = some (.int .u64 f.t) := hf1.t.1 0 (by omega); have q3 : wf1.cell? ⟨U, 0, none⟩ = some (.int .i64 f.u) := hf1.u.1 0 (by omega); have q4 : wf1.cell? ⟨A, 0, none⟩ = some (.string f.qk) := hf1.a.1 0 (by omega); have q5 : wf1.cell? ⟨A, 1, none⟩ = some (.string f.qa) := hf1.a.1 1 (by omega); have c22 := hf1.n.1 22 (by omega); have f22 := hf1.n.2 22; have c23 := hf1.n.1 23 (by omega); have f23 := hf1.n.2 23; have c24 := hf1.n.1 24 (by omega); have f24 := hf1.n.2 24; have c25 := hf1.n.1 25 (by omega); have f25 := hf1.n.2 25; have c26 := hf1.n.1 26 (by omega); have f26 := hf1.n.2 26; have c27 := hf1.n.1 27 (by omega); have f27 := hf1.n.2 27; have c28 := hf1.n.1 28 (by omega); have f28 := hf1.n.2 28; clear hown hgrow hf0 ef c21 f21)
  have hf2 := ((((((hf1.set 22 (by omega) (.slice (some ⟨wz.heap.size, 0, none⟩) f.n f.n)).set 23 (by omega) (.int .i64 f.n)).set 24 (by omega) (.int .i64 f.k)).set 28 (by omega) (.int .u64 f.t)).set 27 (by omega) (.int .i64 f.u)).set 25 (by omega) (.string f.qk)).set 26 (by omega) (.string f.qa)
  clear q0 q1 q2 q3 q4 q5 c22 f22 c23 f23 c24 f24 c25 f25 c26 f26 c27 f27 c28 f28 hf1
  generalize World.setCell (World.setCell (World.setCell (World.setCell (World.setCell (World.setCell (World.setCell wf1 _ _) _ _) _ _) _ _) _ _) _ _) _ _ = wp at hf2 ⊢
  have eb : wp.cell? ⟨E, 1, none⟩ = some (.slice (some ⟨b.g, 0, none⟩) b.n b.n) := hf2.e.1 1 (by omega)
  have c32 := hf2.n.1 32 (by omega)
  have f32 := hf2.n.2 32
  have hb0 := hf2.set 32 (by omega) (.slice (some ⟨b.g, 0, none⟩) b.n b.n)
  rw [rounds_succ]
  go_wp2_with (at_make; refine wpList_make_full _ rfl _ _ 41 rfl wp.heap.size 83 i0 _ 1 Ybaz.underlying41 HI.out HZ0.out HZ1.out _ _ _ _ b.n rfl rfl rfl rfl hbyB hmxB (by simp) ?_; intro wb1 hown hgrow; have hb1 := hb0.grown hgrow; have q0 : wb1.cell? ⟨E, 1, none⟩ = some (.slice (some ⟨b.g, 0, none⟩) b.n b.n) := hb1.e.1 1 (by omega); have q1 : wb1.cell? ⟨W, 1, none⟩ = some (.int .i64 b.k) := hb1.wk.1 1 (by omega); have q2 : wb1.cell? ⟨T, 1, none⟩ = some (.int .u64 b.t) := hb1.t.1 1 (by omega); have q3 : wb1.cell? ⟨U, 1, none⟩ = some (.int .i64 b.u) := hb1.u.1 1 (by omega); have q4 : wb1.cell? ⟨A, 2, none⟩ = some (.string b.qk) := hb1.a.1 2 (by omega); have q5 : wb1.cell? ⟨A, 3, none⟩ = some (.string b.qa) := hb1.a.1 3 (by omega); have c33 := hb1.n.1 33 (by omega); have f33 := hb1.n.2 33; have c34 := hb1.n.1 34 (by omega); have f34 := hb1.n.2 34; have c35 := hb1.n.1 35 (by omega); have f35 := hb1.n.2 35; have c36 := hb1.n.1 36 (by omega); have f36 := hb1.n.2 36; have c37 := hb1.n.1 37 (by omega); have f37 := hb1.n.2 37; have c38 := hb1.n.1 38 (by omega); have f38 := hb1.n.2 38; have c39 := hb1.n.1 39 (by omega); have f39 := hb1.n.2 39; clear hown hgrow hb0 eb c32 f32)
  have hb2 := ((((((hb1.set 33 (by omega) (.slice (some ⟨wp.heap.size, 0, none⟩) b.n b.n)).set 34 (by omega) (.int .i64 b.n)).set 35 (by omega) (.int .i64 b.k)).set 39 (by omega) (.int .u64 b.t)).set 38 (by omega) (.int .i64 b.u)).set 36 (by omega) (.string b.qk)).set 37 (by omega) (.string b.qa)
  clear q0 q1 q2 q3 q4 q5 c33 f33 c34 f34 c35 f35 c36 f36 c37 f37 c38 f38 c39 f39 hb1
  generalize World.setCell (World.setCell (World.setCell (World.setCell (World.setCell (World.setCell (World.setCell wb1 _ _) _ _) _ _) _ _) _ _) _ _) _ _ = wq at hb2 ⊢
  obtain ⟨c2, hp2, hX2, hfA, hbA⟩ : ∃ c2, TickPre c2 H uk ua 0 ∧ HX w H S N E W T U A uk ua f b c2 wq ∧ f.At c2 21 ∧ b.At c2 32 :=
    ⟨_, ((((((((((((((((hp.setG 21 (by omega) _).setG 22 (by omega) _).setG 23 (by omega) _).setG 24 (by omega) _).setG 28 (by omega) _).setG 27 (by omega) _).setG 25 (by omega) _).setG 26 (by omega) _).setG 32 (by omega) _).setG 33 (by omega) _).setG 34 (by omega) _).setG 35 (by omega) _).setG 39 (by omega) _).setG 38 (by omega) _).setG 36 (by omega) _).setG 37 (by omega) _), hb2, ⟨rfl, rfl, rfl, rfl, rfl, rfl⟩, ⟨rfl, rfl, rfl, rfl, rfl, rfl⟩⟩
  clear hb2 hp hX hord
  obtain ⟨i1, hi1, hy0, hy1, hy2⟩ := info_parts Ybaz.infoPeer
  have hbyP : i1.bytes * len2 ≤ 281474976710656 := by rw [hy2]; omega
  rw [rounds_succ]
  go_wp2_with (at_make; refine wpList_make_full _ rfl _ _ 47 rfl wq.heap.size 30 i1 _ 2 Ybaz.underlying47 hi1 hy0 hy1 _ _ _ _ len2 rfl rfl rfl rfl hbyP hmxS (Nat.le_refl _) ?_; intro wS hown hgrow)
  have hblk : Blk wS wq.heap.size (len2 * 2) (smC (fun i => z2.getD i 0) 0) := by
    refine ⟨fun j hj => ?_, fun j => hown.frozenAt j⟩
    rw [hown.cellAt j hj, Array.getElem?_toList]
    refine (madeCells_two _ _ _ hj).trans ?_
    simp [smC]
  have hX3 := hX2.grown hgrow
  have hgS : wq.heap.size < wS.heap.size := (hown.lt _ rfl).2
  have hAg : A < wq.heap.size := by have := hX2.ord; omega
  obtain ⟨g, hg⟩ : ∃ g, g = wq.heap.size := ⟨_, rfl⟩
  rw [← hg] at hblk hgS hAg
  rw [← hg]
  clear hown hgrow hX2 hg hi1 hy0 hy1 hy2
  go_loopw [167] (fun i wr => ∃ k : Nat, k ≤ len2 ∧ i = .int .i64 k ∧ Blk wr g (len2 * 2) (smC (fun i => z2.getD i 0) k) ∧ HX w H S N E W T U A uk ua f b c2 wr ∧ g < wr.heap.size) (fun i _ => len2 - (intOf i).toNat)
  case atStart => exact ⟨0, by omega, rfl, hblk, hX3, hgS⟩
  case round =>
    clear hblk hX3 hgS
    obtain ⟨k, hk, rfl, hb, hX, hgl⟩ := hrel
    by_cases hlt : k < len2
    · obtain ⟨bb, off, rfl, hbl, hc⟩ := hz2 k hlt
      obtain ⟨q, hq⟩ : ∃ q, q = z2.getD k 0 := ⟨_, rfl⟩
      have hq0 : 0 ≤ q := by rw [hq]; simpa using (hzb2 k).1
      have hq1 : q ≤ 255 := by rw [hq]; simpa using (hzb2 k).2
      have hc2 : wr.cell? ⟨bb, off + k, none⟩ = some (.int .u8 q) := by rw [hq]; exact (hX.low.cell (by exact hbl)).trans hc
      have HQ : Hid (q = z2.getD k 0) := hq
      have hk0 : (0 : Int) ≤ (k : Int) := by omega
      have hk7 : (k : Int) < (len2 : Int) := by omega
      clear hz2 hc hq hzb2
      go_wp2_with fail
      refine (peer_any q hq0 hq1 wr).mono ?_
      rintro e w2 ⟨rfl, hB2⟩
      have hb2 := hb.below hB2 hgl
      have hX4 := hX.later hB2
      have hgl2 : g < w2.heap.size := Nat.lt_of_lt_of_le hgl hB2.size
      have c0 := hb2.1 (k * 2) (by omega)
      have c1 := hb2.1 (k * 2 + 1) (by omega)
      have f0 := hb2.2 (k * 2)
      have f1 := hb2.2 (k * 2 + 1)
      have HR : Hid (Blk ((w2.setCell ⟨g, k * 2, none⟩ (.string (pk q))).setCell ⟨g, k * 2 + 1, none⟩ (.string (pa q))) g (len2 * 2) (smC (fun i => z2.getD i 0) (k + 1)) ∧ HX w H S N E W T U A uk ua f b c2 ((w2.setCell ⟨g, k * 2, none⟩ (.string (pk q))).setCell ⟨g, k * 2 + 1, none⟩ (.string (pa q))) ∧ g < ((w2.setCell ⟨g, k * 2, none⟩ (.string (pk q))).setCell ⟨g, k * 2 + 1, none⟩ (.string (pa q))).heap.size) :=
        ⟨smC_step hb2 hlt HQ.out, hX4.above (((Below.refl _ _).setCell (by show A + 1 ≤ g; omega) _).setCell (by show A + 1 ≤ g; omega) _), by simpa using hgl2⟩
      clear hX4 hX hb hb2
      go_wp2_with fail
      go_roundw
      case rel => exact ⟨k + 1, by omega, by go_num, HR.out⟩
      case measure => simp [intOf]; omega
    · obtain rfl : k = len2 := by omega
      have HSM : Hid (∀ w', Below (g + 1) wr w' → Prs w' g k (fun j => pk (z2.getD j 0)) (fun j => pa (z2.getD j 0))) := fun w' hB => (sm_prs (z := fun i => z2.getD i 0) hb).block (hB.block g (by omega))
      have c9 := hX.n.1 9 (by omega)
      have hkk : ¬ ((k : Int) < (k : Int)) := by omega
      go_upto_region 33 with (at_make; refine wpList_make_full _ rfl _ _ 41 rfl wr.heap.size 83 i0 _ 1 Ybaz.underlying41 HI.out HZ0.out HZ1.out _ _ _ _ k rfl rfl rfl rfl hbyS hmxS (Nat.le_refl _) ?_; intro wk hown hgrow; have hXk := hX.grown hgrow; have hBk : Below (g + 1) wr wk := ((Below.refl _ _).grown hgrow (by omega) (fun k h => by cases h)); have d9 := hXk.n.1 9 (by omega); have d9f := hXk.n.2 9; have d10 := hXk.n.1 10 (by omega); have d10f := hXk.n.2 10; clear hown hgrow)
      have hXl := (hXk.set 9 (by omega) (.slice (some ⟨g, 0, none⟩) k k)).set 10 (by omega) (.slice (some ⟨wr.heap.size, 0, none⟩) k k)
      have hBl : Below (g + 1) wr ((wk.setCell ⟨N, 9, none⟩ (.slice (some ⟨g, 0, none⟩) k k)).setCell ⟨N, 10, none⟩ (.slice (some ⟨wr.heap.size, 0, none⟩) k k)) ∨ True := .inr trivial
      have hPl : Prs ((wk.setCell ⟨N, 9, none⟩ (.slice (some ⟨g, 0, none⟩) k k)).setCell ⟨N, 10, none⟩ (.slice (some ⟨wr.heap.size, 0, none⟩) k k)) g k (fun j => pk (z2.getD j 0)) (fun j => pa (z2.getD j 0)) :=
        (HSM.out wk hBk).block ((Below.heap_setCell _ ⟨N, 10, none⟩ _ g (by have := hX.ord; show g ≠ N; omega)).trans (Below.heap_setCell _ ⟨N, 9, none⟩ _ g (by have := hX.ord; show g ≠ N; omega)))
      have hgk : g < ((wk.setCell ⟨N, 9, none⟩ (.slice (some ⟨g, 0, none⟩) k k)).setCell ⟨N, 10, none⟩ (.slice (some ⟨wr.heap.size, 0, none⟩) k k)).heap.size := by simp; exact Nat.lt_of_lt_of_le hgl hBk.size
      have hsz : ((wk.setCell ⟨N, 9, none⟩ (.slice (some ⟨g, 0, none⟩) k k)).setCell ⟨N, 10, none⟩ (.slice (some ⟨wr.heap.size, 0, none⟩) k k)).heap.size = wk.heap.size := by simp
      obtain ⟨Ww, hWw⟩ : ∃ Ww, Ww = wk.heap.size := ⟨_, rfl⟩
      rw [← hWw] at hsz
      rw [← hWw]
      clear hX hXk hBk hBl HSM d9 d9f d10 d10f hb hWw c9
      generalize World.setCell (World.setCell wk _ _) _ _ = wl at hXl hPl hgk hsz ⊢
      generalize hc5 : upd (upd c2 9 (.slice (some ⟨g, 0, none⟩) k k)) 10 (.slice (some ⟨wr.heap.size, 0, none⟩) k k) = c5 at hXl
      have hp5 : TickPre c5 H uk ua 0 := by rw [← hc5]; exact (hp2.setG 9 (by omega) _).setG 10 (by omega) _
      have hf5 : f.At c5 21 := by rw [← hc5]; exact (hfA.other 9 (by omega) _).other 10 (by omega) _
      have hb5 : b.At c5 32 := by rw [← hc5]; exact (hbA.other 9 (by omega) _).other 10 (by omega) _
      have h95 : c5 9 = .slice (some ⟨g, 0, none⟩) k k := by rw [← hc5]; rfl
      clear hc5 hp2 hfA hbA
      have hB3 : Below wl.heap.size wl (((wl.alloc (.cells #[.int .i64 0, .int .i64 0] 36)).alloc (.cells #[.string ⟨#[]⟩, .string ⟨#[]⟩, .string ⟨#[]⟩, .string ⟨#[]⟩] 39)).alloc (.cells #[.int .i64 0, .int .i64 0] 36)) := (((Below.refl _ wl).alloc (Nat.le_refl _) _).alloc (by simp) _).alloc (by simp; omega) _
      have x1 := ((Blk.fresh wl #[.int .i64 0, .int .i64 0] 36).alloc (by simp) (.cells #[.string ⟨#[]⟩, .string ⟨#[]⟩, .string ⟨#[]⟩, .string ⟨#[]⟩] 39)).alloc (by simp; omega) (.cells #[.int .i64 0, .int .i64 0] 36)
      have x2 := (Blk.fresh (wl.alloc (.cells #[.int .i64 0, .int .i64 0] 36)) #[.string ⟨#[]⟩, .string ⟨#[]⟩, .string ⟨#[]⟩, .string ⟨#[]⟩] 39).alloc (by simp) (.cells #[.int .i64 0, .int .i64 0] 36)
      have x3 := Blk.fresh ((wl.alloc (.cells #[.int .i64 0, .int .i64 0] 36)).alloc (.cells #[.string ⟨#[]⟩, .string ⟨#[]⟩, .string ⟨#[]⟩, .string ⟨#[]⟩] 39)) #[.int .i64 0, .int .i64 0] 36
      have hs3 : (((wl.alloc (.cells #[.int .i64 0, .int .i64 0] 36)).alloc (.cells #[.string ⟨#[]⟩, .string ⟨#[]⟩, .string ⟨#[]⟩, .string ⟨#[]⟩] 39)).alloc (.cells #[.int .i64 0, .int .i64 0] 36)).heap.size = Ww + 1 + 1 + 1 := by simp [hsz]
      rw [hsz] at x1
      rw [World.size_alloc, hsz] at x2
      rw [World.size_alloc, World.size_alloc, hsz] at x3
      have hX6 := hXl.later hB3
      have hP6 := hPl.block (hB3.block g hgk)
      generalize World.alloc (World.alloc (World.alloc wl _) _) _ = wv at hX6 hP6 x1 x2 x3 hs3 ⊢
      clear hXl hPl hB3
      rw [hsz] at hgk
      clear hsz
      go_cut [40] from 40 to 40 (fun v wx => v = .pointer (some ⟨Ww + 1 + 1 + 1, 0, none⟩) ∧ LF w H S N E W T U A g k Ww uk ua (fun j => pk (z2.getD j 0)) (fun j => pa (z2.getD j 0)) f b wx ∧ ∃ ww wa wu wt, LB Ww (Ww + 1) (Ww + 1 + 1) (Ww + 1 + 1 + 1) (Ww + 1 + 1 + 1 + 1) ww wa wu wt (.slice none 0 0) [] wx)
      case first =>
        have HR : Hid (LF w H S N E W T U A g k Ww uk ua (fun j => pk (z2.getD j 0)) (fun j => pa (z2.getD j 0)) f b (wv.alloc (.cells #[.int .u64 0, .int .u64 0] 37)) ∧ ∃ ww wa wu wt, LB Ww (Ww + 1) (Ww + 1 + 1) (Ww + 1 + 1 + 1) (Ww + 1 + 1 + 1 + 1) ww wa wu wt (.slice none 0 0) [] (wv.alloc (.cells #[.int .u64 0, .int .u64 0] 37))) := by
          have hB4 : Below wv.heap.size wv (wv.alloc (.cells #[.int .u64 0, .int .u64 0] 37)) := (Below.refl _ _).alloc (Nat.le_refl _) _
          have x4 := Blk.fresh wv #[.int .u64 0, .int .u64 0] 37
          rw [hs3] at x4
          refine ⟨(hX6.later hB4).lf hp5 hf5 hb5 h95 (hP6.block (hB4.block g (by omega))) hAg hgk (by simp; omega), _, _, _, _, x1.below hB4 (by omega), x2.below hB4 (by omega), x3.below hB4 (by omega), x4, World.ownsRow_nil _ _ _ _, by simp; omega⟩
        clear hX6 hP6 x1 x2 x3
        go_wp2_with fail
        go_meet
        case rel => exact ⟨rfl, HR.out⟩
      case rest =>
        obtain ⟨rfl, hF, ww, wa, wu, wt, hL⟩ := hcut
        have HF : Hid _ := hF
        have HL : Hid _ := hL
        clear hF hL hX6 hP6 x1 x2 x3
        rename_i hK
        exact hK _ _ (step_loop w H S N E W T U A g k Ww (Ww + 1) (Ww + 1 + 1) (Ww + 1 + 1 + 1) (Ww + 1 + 1 + 1 + 1) uk ua _ _ _ _ f b ww wa wu wt wc HF.out HL.out hfk hbk' hfn hbn hl2 huF huB rfl rfl _ _ _ _ _ _ _ _ _ _ _ _ _ _ _ _ _ _ _ _ _ _ _ _ _ _ _ _ _ _ _ _ _ _ _ _ _ _ _ _ _ _ _ _ _ _ _ _ _ _ _ _ _ _ _ _ _ _ _ _ _ _ _ _ _ _ _ _ _ _ _ _ _ _ _ _ _ _ _ _ _ _ _ _ _ _ _ _ _ _ _ _ _ _ _ _ _ _ _ _ _ _ _ _ _ _ _ _ _ _ _ _ _ _ _ _ _ _ _ _ _ _ _ _ _ _ _ _ _ _ _ _ _ _ _ _ _ _ _ _ _ _ _ _ _ _ _ _ _ _ _ _ _ _ _ _ _)

end Go.Proofs.YbulkbpcaGreat
