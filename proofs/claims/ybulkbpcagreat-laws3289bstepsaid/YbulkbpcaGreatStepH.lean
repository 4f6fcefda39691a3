import Derived.Test.YbulkbpcaGreatStepG
namespace Go.Proofs.YbulkbpcaGreat
open Go.ChangeShapes Go.WideShapes Go.ChangeAt Go.RowKit
set_option linter.unusedVariables false

theorem TickPre.setG {c : Nat → Value} {H : Nat} {uk ua : ByteArray} {ti : Int} (p : TickPre c H uk ua ti) (i : Nat) (hi : (9 ≤ i ∧ i ≤ 12) ∨ (21 ≤ i ∧ i ≤ 57)) (v : Value) : TickPre (upd c i v) H uk ua ti := by
  have e : ∀ j, (j < 9 ∨ (13 ≤ j ∧ j < 21) ∨ j = 58) → upd c i v j = c j := fun j hj => by unfold upd; rw [if_neg (by omega)]
  refine ⟨?_, ?_, ?_, ?_, ?_, ?_, ?_, ?_, ?_, ?_, ?_, ?_, ?_, ?_, ?_⟩ <;> (rw [e _ (by omega)]) <;> first | exact p.h0 | exact p.h1 | exact p.h2 | exact p.h3 | exact p.h7 | exact p.h8 | exact p.h13 | exact p.h14 | exact p.h15 | exact p.h16 | exact p.h17 | exact p.h18 | exact p.h19 | exact p.h20 | exact p.h58

/-- What the law has laid ahead of its loops: the node, its host, and its own arrays. -/
structure HX (w : World) (H S N E W T U A : Nat) (uk ua : ByteArray) (f b : Tb) (c : Nat → Value) (wr : World) : Prop where
  n : Blk wr N 258 c
  h : Blk wr H 3 (fun _ => .slice none 0 0)
  s : Blk wr S 2 (peerC uk ua)
  e : Blk wr E 2 (two (.slice (some ⟨f.g, 0, none⟩) f.n f.n) (.slice (some ⟨b.g, 0, none⟩) b.n b.n))
  wk : Blk wr W 2 (two (.int .i64 f.k) (.int .i64 b.k))
  t : Blk wr T 2 (two (.int .u64 f.t) (.int .u64 b.t))
  u : Blk wr U 2 (two (.int .i64 f.u) (.int .i64 b.u))
  a : Blk wr A 4 (four (.string f.qk) (.string f.qa) (.string b.qk) (.string b.qa))
  rf : Rgs wr f.g f.n f.kf f.af
  rb : Rgs wr b.g b.n b.kf b.af
  low : Below w.heap.size w wr
  ord : w.heap.size ≤ H ∧ H < S ∧ S < N ∧ N < f.g ∧ f.g < b.g ∧ b.g < E ∧ E < W ∧ W < T ∧ T < U ∧ U < A ∧ A < wr.heap.size

section
variable {w : World} {H S N E W T U A : Nat} {uk ua : ByteArray} {f b : Tb} {c : Nat → Value} {wr w' : World}

theorem HX.set (l : HX w H S N E W T U A uk ua f b c wr) (i : Nat) (hi : i < 258) (v : Value) : HX w H S N E W T U A uk ua f b (upd c i v) (wr.setCell ⟨N, i, none⟩ v) := by
  obtain ⟨o1, o2, o3, o4, o5, o6, o7, o8, o9, o10, o11⟩ := l.ord
  have hk : Kp (fun j => j = N) wr (wr.setCell ⟨N, i, none⟩ v) := (Kp.refl (fun j => j = N) wr).setCell (p := ⟨N, i, none⟩) (fun _ => rfl) v
  exact ⟨l.n.set i hi v, l.h.kept hk (by omega) (by omega), l.s.kept hk (by omega) (by omega), l.e.kept hk (by omega) (by omega), l.wk.kept hk (by omega) (by omega), l.t.kept hk (by omega) (by omega), l.u.kept hk (by omega) (by omega), l.a.kept hk (by omega) (by omega),
    l.rf.block (hk.block _ (by omega) (by omega)), l.rb.block (hk.block _ (by omega) (by omega)), l.low.setCell (by show _ ≤ N; omega) v, ⟨o1, o2, o3, o4, o5, o6, o7, o8, o9, o10, by simpa using o11⟩⟩

theorem HX.later (l : HX w H S N E W T U A uk ua f b c wr) (hb : Below wr.heap.size wr w') : HX w H S N E W T U A uk ua f b c w' := by
  obtain ⟨o1, o2, o3, o4, o5, o6, o7, o8, o9, o10, o11⟩ := l.ord
  exact ⟨l.n.below hb (by omega), l.h.below hb (by omega), l.s.below hb (by omega), l.e.below hb (by omega), l.wk.below hb (by omega), l.t.below hb (by omega), l.u.below hb (by omega), l.a.below hb (by omega),
    l.rf.block (hb.block _ (by omega)), l.rb.block (hb.block _ (by omega)), l.low.trans (hb.mono (by omega)), ⟨o1, o2, o3, o4, o5, o6, o7, o8, o9, o10, Nat.lt_of_lt_of_le o11 hb.size⟩⟩

theorem HX.above (l : HX w H S N E W T U A uk ua f b c wr) (hb : Below (A + 1) wr w') : HX w H S N E W T U A uk ua f b c w' := by
  obtain ⟨o1, o2, o3, o4, o5, o6, o7, o8, o9, o10, o11⟩ := l.ord
  exact ⟨l.n.below hb (by omega), l.h.below hb (by omega), l.s.below hb (by omega), l.e.below hb (by omega), l.wk.below hb (by omega), l.t.below hb (by omega), l.u.below hb (by omega), l.a.below hb (by omega),
    l.rf.block (hb.block _ (by omega)), l.rb.block (hb.block _ (by omega)), l.low.trans (hb.mono (by omega)), ⟨o1, o2, o3, o4, o5, o6, o7, o8, o9, o10, Nat.lt_of_lt_of_le o11 hb.size⟩⟩

theorem HX.grown (l : HX w H S N E W T U A uk ua f b c wr) (hg : wr.grownBy w' none) : HX w H S N E W T U A uk ua f b c w' :=
  l.later ((Below.refl _ _).grown hg (Nat.le_refl _) (fun k h => by cases h))

theorem HX.lf {Ww gS nS : Nat} {sk sa : Nat → ByteArray} (l : HX w H S N E W T U A uk ua f b c wr) (hp : TickPre c H uk ua 0) (hf : f.At c 21) (hb : b.At c 32) (h9 : c 9 = .slice (some ⟨gS, 0, none⟩) nS nS) (rs : Prs wr gS nS sk sa) (hA : A < gS) (hg : gS < Ww) (hw : Ww ≤ wr.heap.size) :
    LF w H S N E W T U A gS nS Ww uk ua sk sa f b wr := by
  obtain ⟨o1, o2, o3, o4, o5, o6, o7, o8, o9, o10, o11⟩ := l.ord
  exact ⟨⟨c, l.n, hp, hf, hb, h9⟩, l.h, l.s, l.e, l.wk, l.t, l.u, l.a, l.rf, l.rb, rs, l.low, ⟨o1, o2, o3, o4, o5, o6, o7, o8, o9, o10, hA, hg, hw⟩⟩
end
theorem Ybaz.infoU32 : (Ybaz.prog.info? 83).map (fun i => (i.zero, i.size, i.bytes)) = some (some (.int .u32 0), 1, 4) := by kernel_rfl
theorem Ybaz.infoPeer : (Ybaz.prog.info? 30).map (fun i => (i.zero, i.size, i.bytes)) = some (some (.agg #[.string ⟨#[]⟩, .string ⟨#[]⟩]), 2, 32) := by kernel_rfl
end Go.Proofs.YbulkbpcaGreat
