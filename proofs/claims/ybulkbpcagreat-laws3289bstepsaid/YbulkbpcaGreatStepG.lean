import Derived.Test.YbulkbpcaGreatStepA
import Derived.Test.YbulkbpcaGreatStepF
namespace Go.Proofs.YbulkbpcaGreat
open Go.ChangeShapes Go.WideShapes Go.ChangeAt Go.RowKit
set_option linter.unusedVariables false

/-- What the law has laid, below its own four boxes. -/
structure LF (w : World) (H S N E W T U A gS nS Ww : Nat) (uk ua : ByteArray) (sk sa : Nat → ByteArray) (f b : Tb) (wr : World) : Prop where
  n : ∃ c, Blk wr N 258 c ∧ TickPre c H uk ua 0 ∧ f.At c 21 ∧ b.At c 32 ∧ c 9 = .slice (some ⟨gS, 0, none⟩) nS nS
  h : Blk wr H 3 (fun _ => .slice none 0 0)
  s : Blk wr S 2 (peerC uk ua)
  e : Blk wr E 2 (two (.slice (some ⟨f.g, 0, none⟩) f.n f.n) (.slice (some ⟨b.g, 0, none⟩) b.n b.n))
  wk : Blk wr W 2 (two (.int .i64 f.k) (.int .i64 b.k))
  t : Blk wr T 2 (two (.int .u64 f.t) (.int .u64 b.t))
  u : Blk wr U 2 (two (.int .i64 f.u) (.int .i64 b.u))
  a : Blk wr A 4 (four (.string f.qk) (.string f.qa) (.string b.qk) (.string b.qa))
  rf : Rgs wr f.g f.n f.kf f.af
  rb : Rgs wr b.g b.n b.kf b.af
  rs : Prs wr gS nS sk sa
  low : Below w.heap.size w wr
  ord : w.heap.size ≤ H ∧ H < S ∧ S < N ∧ N < f.g ∧ f.g < b.g ∧ b.g < E ∧ E < W ∧ W < T ∧ T < U ∧ U < A ∧ A < gS ∧ gS < Ww ∧ Ww ≤ wr.heap.size

theorem LF.later {w : World} {H S N E W T U A gS nS Ww : Nat} {uk ua : ByteArray} {sk sa : Nat → ByteArray} {f b : Tb} {wr w' : World} (l : LF w H S N E W T U A gS nS Ww uk ua sk sa f b wr) (hb : Below Ww wr w') :
    LF w H S N E W T U A gS nS Ww uk ua sk sa f b w' := by
  obtain ⟨o1, o2, o3, o4, o5, o6, o7, o8, o9, o10, o11, o12, o13⟩ := l.ord
  obtain ⟨c, n1, n2⟩ := l.n
  exact ⟨⟨c, n1.below hb (by omega), n2⟩, l.h.below hb (by omega), l.s.below hb (by omega), l.e.below hb (by omega), l.wk.below hb (by omega), l.t.below hb (by omega), l.u.below hb (by omega), l.a.below hb (by omega),
    l.rf.block (hb.block _ (by omega)), l.rb.block (hb.block _ (by omega)), l.rs.block (hb.block _ (by omega)), l.low.trans (hb.mono (by omega)), ⟨o1, o2, o3, o4, o5, o6, o7, o8, o9, o10, o11, o12, Nat.le_trans o13 hb.size⟩⟩

/-- The law's four boxes, and what it wants to be sent. -/
structure LB (Ww Wa Wu Wt Bq : Nat) (ww wa wu wt : Nat → Value) (V : Value) (ls : List (List Value)) (wr : World) : Prop where
  bw : Blk wr Ww 2 ww
  ba : Blk wr Wa 4 wa
  bu : Blk wr Wu 2 wu
  bt : Blk wr Wt 2 wt
  v : wr.ownsRow Bq 76 25 V ls.length ls.flatten
  ord : Ww < Wa ∧ Wa < Wu ∧ Wu < Wt ∧ Wt < Bq ∧ Bq ≤ wr.heap.size

section
variable {Ww Wa Wu Wt Bq : Nat} {ww wa wu wt : Nat → Value} {V : Value} {ls : List (List Value)} {wr w' : World}

theorem owns_below {base : Nat} (h : wr.ownsRow base 76 25 V ls.length ls.flatten) (hb : Below wr.heap.size wr w') : w'.ownsRow base 76 25 V ls.length ls.flatten := by
  refine ⟨h.1, ?_⟩
  rcases h.2 with hn | ⟨g, cap, cur, rfl, hg1, hg, rest⟩
  · exact .inl hn
  · refine .inr ⟨g, cap, cur, rfl, hg1, ?_, rest⟩
    rw [hb.block g (Array.getElem?_eq_some_iff.1 hg).1]
    exact hg

theorem LB.later (l : LB Ww Wa Wu Wt Bq ww wa wu wt V ls wr) (hb : Below wr.heap.size wr w') : LB Ww Wa Wu Wt Bq ww wa wu wt V ls w' := by
  obtain ⟨o1, o2, o3, o4, o5⟩ := l.ord
  exact ⟨l.bw.below hb (by omega), l.ba.below hb (by omega), l.bu.below hb (by omega), l.bt.below hb (by omega), owns_below l.v hb, ⟨o1, o2, o3, o4, Nat.le_trans o5 hb.size⟩⟩

theorem LB.setW (l : LB Ww Wa Wu Wt Bq ww wa wu wt V ls wr) (i : Nat) (hi : i < 2) (x : Value) : LB Ww Wa Wu Wt Bq (upd ww i x) wa wu wt V ls (wr.setCell ⟨Ww, i, none⟩ x) := by
  obtain ⟨o1, o2, o3, o4, o5⟩ := l.ord
  exact ⟨l.bw.set i hi x, l.ba.setOther _ (by show Wa ≠ Ww; omega) x, l.bu.setOther _ (by show Wu ≠ Ww; omega) x, l.bt.setOther _ (by show Wt ≠ Ww; omega) x, ownsRow_setCell_below l.v (by show Ww < Bq; omega) x, ⟨o1, o2, o3, o4, by simpa using o5⟩⟩
theorem LB.setA (l : LB Ww Wa Wu Wt Bq ww wa wu wt V ls wr) (i : Nat) (hi : i < 4) (x : Value) : LB Ww Wa Wu Wt Bq ww (upd wa i x) wu wt V ls (wr.setCell ⟨Wa, i, none⟩ x) := by
  obtain ⟨o1, o2, o3, o4, o5⟩ := l.ord
  exact ⟨l.bw.setOther _ (by show Ww ≠ Wa; omega) x, l.ba.set i hi x, l.bu.setOther _ (by show Wu ≠ Wa; omega) x, l.bt.setOther _ (by show Wt ≠ Wa; omega) x, ownsRow_setCell_below l.v (by show Wa < Bq; omega) x, ⟨o1, o2, o3, o4, by simpa using o5⟩⟩
theorem LB.setU (l : LB Ww Wa Wu Wt Bq ww wa wu wt V ls wr) (i : Nat) (hi : i < 2) (x : Value) : LB Ww Wa Wu Wt Bq ww wa (upd wu i x) wt V ls (wr.setCell ⟨Wu, i, none⟩ x) := by
  obtain ⟨o1, o2, o3, o4, o5⟩ := l.ord
  exact ⟨l.bw.setOther _ (by show Ww ≠ Wu; omega) x, l.ba.setOther _ (by show Wa ≠ Wu; omega) x, l.bu.set i hi x, l.bt.setOther _ (by show Wt ≠ Wu; omega) x, ownsRow_setCell_below l.v (by show Wu < Bq; omega) x, ⟨o1, o2, o3, o4, by simpa using o5⟩⟩
theorem LB.setT (l : LB Ww Wa Wu Wt Bq ww wa wu wt V ls wr) (i : Nat) (hi : i < 2) (x : Value) : LB Ww Wa Wu Wt Bq ww wa wu (upd wt i x) V ls (wr.setCell ⟨Wt, i, none⟩ x) := by
  obtain ⟨o1, o2, o3, o4, o5⟩ := l.ord
  exact ⟨l.bw.setOther _ (by show Ww ≠ Wt; omega) x, l.ba.setOther _ (by show Wa ≠ Wt; omega) x, l.bu.setOther _ (by show Wu ≠ Wt; omega) x, l.bt.set i hi x, ownsRow_setCell_below l.v (by show Wt < Bq; omega) x, ⟨o1, o2, o3, o4, by simpa using o5⟩⟩

theorem LF.set {w : World} {H S N E W T U A gS nS : Nat} {uk ua : ByteArray} {sk sa : Nat → ByteArray} {f b : Tb} (l : LF w H S N E W T U A gS nS Ww uk ua sk sa f b wr) (B i : Nat) (hB : Ww ≤ B) (x : Value) :
    LF w H S N E W T U A gS nS Ww uk ua sk sa f b (wr.setCell ⟨B, i, none⟩ x) := l.later ((Below.refl Ww wr).setCell hB x)
theorem LF.laterS {w : World} {H S N E W T U A gS nS : Nat} {uk ua : ByteArray} {sk sa : Nat → ByteArray} {f b : Tb} (l : LF w H S N E W T U A gS nS Ww uk ua sk sa f b wr) (hb : Below wr.heap.size wr w') :
    LF w H S N E W T U A gS nS Ww uk ua sk sa f b w' := l.later (hb.mono (by have := l.ord; omega))
end

theorem LB.app {Ww Wa Wu Wt Bq : Nat} {ww wa wu wt : Nat → Value} {V : Value} {ls : List (List Value)} {wr w4 : World} {o : Obj} {g cap : Nat} {x : List Value} (l : LB Ww Wa Wu Wt Bq ww wa wu wt V ls wr)
    (hown : w4.ownsRow Bq 76 25 (.slice (some ⟨g, 0, none⟩) (ls.length + 1) cap) (ls.length + 1) (ls.flatten ++ x)) (hgrow : (wr.alloc o).grownBy w4 V.ownBlock) :
    LB Ww Wa Wu Wt Bq ww wa wu wt (.slice (some ⟨g, 0, none⟩) (ls.length + 1) cap) (ls ++ [x]) w4 ∧ Below Bq wr w4 ∧ (∀ k n c, Blk wr k n c → k < wr.heap.size → V.ownBlock ≠ some k → Blk w4 k n c) := by
  obtain ⟨o1, o2, o3, o4, o5⟩ := l.ord
  have hB : Below Bq wr w4 := ((Below.refl _ _).alloc o5 _).trans ((Below.refl _ _).grown hgrow (by simp; omega) (fun j hj => (l.v.lt j hj).1))
  refine ⟨⟨l.bw.below hB (by omega), l.ba.below hB (by omega), l.bu.below hB (by omega), l.bt.below hB (by omega), ?_, ⟨o1, o2, o3, o4, Nat.le_trans o5 hB.size⟩⟩, hB, fun k n c h hk hne => ?_⟩
  · simpa using hown
  · exact h.block ((hgrow.block k (by simp; omega) (fun e => hne e.symm)).trans (Below.heap_alloc wr o k hk))

/-- The boxes hold what is left of the forward table; of the backward one. -/
def Done0 (f : Tb) (ww wa wu wt : Nat → Value) : Prop := ww 0 = .int .i64 f.k ∧ wa 0 = .string f.qk ∧ wa 1 = .string f.qa ∧ wu 0 = .int .i64 f.u ∧ wt 0 = .int .u64 f.t
def Done1 (f : Tb) (ww wa wu wt : Nat → Value) : Prop := ww 1 = .int .i64 f.k ∧ wa 2 = .string f.qk ∧ wa 3 = .string f.qa ∧ wu 1 = .int .i64 f.u ∧ wt 1 = .int .u64 f.t

/-- The question's cells as the law makes it. -/
def askS (d k : Int) (uk ua : ByteArray) : Nat → Value := upd (upd (ask0 d k) 4 (.string uk)) 5 (.string ua)
theorem store_askS (w : World) (g : Nat) (hg : w.heap.size = g) (cs : Array Value) (hs : cs.size = 23) (d k : Int) (uk ua : ByteArray) :
    Sem.run Ybaz.prog (storeMsgAt (.pointer (some ⟨g, 0, none⟩)) (.agg #[.int .u8 7, .int .u8 d, .bool false, .bool false, .string uk, .string ua, .string ⟨#[]⟩, .string ⟨#[]⟩, .int .u64 0, .string ⟨#[]⟩, .string ⟨#[]⟩, .int .i64 0, .int .i64 0, .int .i64 k, .string ⟨#[]⟩, .string ⟨#[]⟩, .string ⟨#[]⟩, .string ⟨#[]⟩, .string ⟨#[]⟩, .int .i64 0, .pointer none, .string ⟨#[]⟩, .slice none 0 0])) (w.alloc (.cells cs 72)) = .ok () (w.alloc (.cells (mA (askS d k uk ua)) 72)) :=
  store_msg w g hg cs hs (askS d k uk ua) (by unfold One; rw [← Array.all_toList]; rfl)

theorem ask_eqFS (k : Nat) (pk pa nk na mk uk ua : ByteArray) : ∀ j, j < 23 → upd (upd (upd (upd (upd (askS 0 k uk ua) 6 (.string pk)) 7 (.string pa)) 14 (.string nk)) 15 (.string na)) 16 (.string mk) j = upd (upd (askC 0 pk pa nk na mk k) 4 (.string uk)) 5 (.string ua) j := by
  intro j hj
  rcases (show j = 0 ∨ j = 1 ∨ j = 2 ∨ j = 3 ∨ j = 4 ∨ j = 5 ∨ j = 6 ∨ j = 7 ∨ j = 8 ∨ j = 9 ∨ j = 10 ∨ j = 11 ∨ j = 12 ∨ j = 13 ∨ j = 14 ∨ j = 15 ∨ j = 16 ∨ j = 17 ∨ j = 18 ∨ j = 19 ∨ j = 20 ∨ j = 21 ∨ j = 22 from by omega) with rfl | rfl | rfl | rfl | rfl | rfl | rfl | rfl | rfl | rfl | rfl | rfl | rfl | rfl | rfl | rfl | rfl | rfl | rfl | rfl | rfl | rfl | rfl <;> rfl
theorem ask_eqBS (k : Nat) (nk na mk uk ua : ByteArray) : ∀ j, j < 23 → upd (upd (upd (askS 1 k uk ua) 14 (.string nk)) 15 (.string na)) 16 (.string mk) j = upd (upd (askC 1 ⟨#[]⟩ ⟨#[]⟩ nk na mk k) 4 (.string uk)) 5 (.string ua) j := by
  intro j hj
  rcases (show j = 0 ∨ j = 1 ∨ j = 2 ∨ j = 3 ∨ j = 4 ∨ j = 5 ∨ j = 6 ∨ j = 7 ∨ j = 8 ∨ j = 9 ∨ j = 10 ∨ j = 11 ∨ j = 12 ∨ j = 13 ∨ j = 14 ∨ j = 15 ∨ j = 16 ∨ j = 17 ∨ j = 18 ∨ j = 19 ∨ j = 20 ∨ j = 21 ∨ j = 22 from by omega) with rfl | rfl | rfl | rfl | rfl | rfl | rfl | rfl | rfl | rfl | rfl | rfl | rfl | rfl | rfl | rfl | rfl | rfl | rfl | rfl | rfl | rfl | rfl <;> rfl

/-- The law's own bit: as the model's shift has it. -/
theorem bit_low {k : Nat} (h : k < 64) : bitOf k = IntKind.u64.wrap (2 ^ k) := by
  unfold bitOf
  rw [Nat.min_eq_left (by omega)]
theorem bit_high {k : Nat} (h : ¬ k < 64) : bitOf k = 0 := by
  unfold bitOf
  rw [Nat.min_eq_right (by omega)]
  decide

section
variable {w : World} {H S N E W T U A gS nS Ww Wa Wu Wt Bq B1 M : Nat} {uk ua tk ta : ByteArray} {sk sa : Nat → ByteArray} {f b : Tb} {ww wa wu wt : Nat → Value} {V : Value} {ls : List (List Value)} {c : Nat → Value} {wr w' : World}

/-- While the law makes its question. -/
structure MB (w : World) (H S N E W T U A gS nS Ww Wa Wu Wt Bq B1 M : Nat) (uk ua tk ta : ByteArray) (sk sa : Nat → ByteArray) (f b : Tb) (ww wa wu wt : Nat → Value) (V : Value) (ls : List (List Value)) (c : Nat → Value) (wr : World) : Prop where
  f : LF w H S N E W T U A gS nS Ww uk ua sk sa f b wr
  l : LB Ww Wa Wu Wt Bq ww wa wu wt V ls wr
  x1 : Blk wr B1 2 (peerC tk ta)
  x2 : Blk wr (B1 + 1) 2 (peerC tk ta)
  m : Blk wr M 23 c
  q : ∀ k, V.ownBlock = some k → k < B1
  o : Bq ≤ B1 ∧ B1 + 1 < M ∧ M < wr.heap.size

theorem MB.later (h : MB w H S N E W T U A gS nS Ww Wa Wu Wt Bq B1 M uk ua tk ta sk sa f b ww wa wu wt V ls c wr) (hb : Below wr.heap.size wr w') : MB w H S N E W T U A gS nS Ww Wa Wu Wt Bq B1 M uk ua tk ta sk sa f b ww wa wu wt V ls c w' := by
  obtain ⟨o1, o2, o3⟩ := h.o
  exact ⟨h.f.laterS hb, h.l.later hb, h.x1.below hb (by omega), h.x2.below hb (by omega), h.m.below hb (by omega), h.q, ⟨o1, o2, Nat.lt_of_lt_of_le o3 hb.size⟩⟩

theorem MB.set (h : MB w H S N E W T U A gS nS Ww Wa Wu Wt Bq B1 M uk ua tk ta sk sa f b ww wa wu wt V ls c wr) (i : Nat) (hi : i < 23) (v : Value) : MB w H S N E W T U A gS nS Ww Wa Wu Wt Bq B1 M uk ua tk ta sk sa f b ww wa wu wt V ls (upd c i v) (wr.setCell ⟨M, i, none⟩ v) := by
  obtain ⟨o1, o2, o3⟩ := h.o
  obtain ⟨p1, p2, p3, p4, p5⟩ := h.l.ord
  have hl : LB Ww Wa Wu Wt Bq ww wa wu wt V ls (wr.setCell ⟨M, i, none⟩ v) :=
    ⟨h.l.bw.setOther _ (by show Ww ≠ M; omega) v, h.l.ba.setOther _ (by show Wa ≠ M; omega) v, h.l.bu.setOther _ (by show Wu ≠ M; omega) v, h.l.bt.setOther _ (by show Wt ≠ M; omega) v, ownsRow_setCell_other h.l.v (fun e => by have := h.q M e; omega) v, ⟨p1, p2, p3, p4, by simpa using p5⟩⟩
  exact ⟨h.f.set M i (by omega) v, hl, h.x1.setOther _ (by show B1 ≠ M; omega) v, h.x2.setOther _ (by show B1 + 1 ≠ M; omega) v, h.m.set i hi v, h.q, ⟨o1, o2, by simpa using o3⟩⟩
theorem MB.congr {c' : Nat → Value} (h : MB w H S N E W T U A gS nS Ww Wa Wu Wt Bq B1 M uk ua tk ta sk sa f b ww wa wu wt V ls c wr) (e : ∀ j, j < 23 → c j = c' j) : MB w H S N E W T U A gS nS Ww Wa Wu Wt Bq B1 M uk ua tk ta sk sa f b ww wa wu wt V ls c' wr :=
  ⟨h.f, h.l, h.x1, h.x2, h.m.congr e, h.q, h.o⟩
end

theorem host_none {w : World} {H : Nat} (h : Blk w H 3 (fun _ => .slice none 0 0)) : HostSt w H w.heap.size (.slice none 0 0) [] [] :=
  ⟨.slice none 0 0, .slice none 0 0, h.congr fun j hj => by unfold hostV; split <;> first | rfl | (split <;> rfl), World.ownsRow_nil _ _ _ _, World.ownsRow_nil _ _ _ _, .inl rfl, h.lt (by omega), Nat.le_refl _⟩

theorem sent_ask (b o : Tb) (d : Nat) (uk ua pk pa : ByteArray) : ∀ x ∈ b.sent o d uk ua pk pa, IsAsk x := by
  intro x hx
  unfold Tb.sent at hx
  split at hx
  · simp at hx
  · rw [List.mem_singleton] at hx
    exact ⟨_, _, _, _, _, _, _, _, _, _, _, hx⟩

theorem end_of {w : World} {H S N E W T U A gS nS Ww Wa Wu Wt Bq : Nat} {uk ua pk pa : ByteArray} {sk sa : Nat → ByteArray} {f b : Tb} {ww wa wu wt : Nat → Value} {V : Value} {wr w' : World}
    (hF : LF w H S N E W T U A gS nS Ww uk ua sk sa f b wr) (hL : LB Ww Wa Wu Wt Bq ww wa wu wt V (f.sent b 0 uk ua pk pa ++ b.sent f 1 uk ua ⟨#[]⟩ ⟨#[]⟩) wr) (d0 : Done0 f.step ww wa wu wt) (d1 : Done1 b.step ww wa wu wt)
    (hT : Ticked N H wr.heap.size uk ua pk pa f b wr w') : EndSt w H N Ww Wa Wu Wt f.step b.step V (f.sent b 0 uk ua pk pa ++ b.sent f 1 uk ua ⟨#[]⟩ ⟨#[]⟩) (f.noted ++ b.noted) w' := by
  obtain ⟨c, t1, t2, t3, t4, ⟨g, cap, t5, t6⟩, t7⟩ := hT
  have o1 := hF.ord
  obtain ⟨p1, p2, p3, p4, p5⟩ := hL.ord
  obtain ⟨x0, x1, x2, x3, x4⟩ := d0
  obtain ⟨y0, y1, y2, y3, y4⟩ := d1
  refine ⟨⟨c, t1, t2, t3, t4⟩, ?_, ?_, ?_, ?_, ⟨_, g, cap, t5, t6⟩, ⟨Bq, ?_⟩, ?_, ?_, ?_, ?_⟩
  · refine (hL.bw.kept t7 (by omega) (by omega)).congr fun j hj => ?_
    rcases (show j = 0 ∨ j = 1 from by omega) with rfl | rfl
    · exact x0
    · exact y0
  · refine (hL.ba.kept t7 (by omega) (by omega)).congr fun j hj => ?_
    rcases (show j = 0 ∨ j = 1 ∨ j = 2 ∨ j = 3 from by omega) with rfl | rfl | rfl | rfl
    · exact x1
    · exact x2
    · exact y1
    · exact y2
  · refine (hL.bu.kept t7 (by omega) (by omega)).congr fun j hj => ?_
    rcases (show j = 0 ∨ j = 1 from by omega) with rfl | rfl
    · exact x3
    · exact y3
  · refine (hL.bt.kept t7 (by omega) (by omega)).congr fun j hj => ?_
    rcases (show j = 0 ∨ j = 1 from by omega) with rfl | rfl
    · exact x4
    · exact y4
  · refine ⟨hL.v.1, ?_⟩
    rcases hL.v.2 with hn | ⟨g, cap, cur, rfl, hg1, hg, rest⟩
    · exact .inl hn
    · refine .inr ⟨g, cap, cur, rfl, hg1, ?_, rest⟩
      have hgl := (Array.getElem?_eq_some_iff.1 hg).1
      rw [t7.block g hgl (by omega)]
      exact hg
  · unfold Tb.sent; split <;> split <;> simp
  · unfold Tb.noted; split <;> split <;> simp
  · intro x hx
    rcases List.mem_append.1 hx with h | h
    · exact sent_ask _ _ _ _ _ _ _ x h
    · exact sent_ask _ _ _ _ _ _ _ x h
  · exact hF.low.trans (t7.below hF.low.size (fun k hk h => by omega))
end Go.Proofs.YbulkbpcaGreat
