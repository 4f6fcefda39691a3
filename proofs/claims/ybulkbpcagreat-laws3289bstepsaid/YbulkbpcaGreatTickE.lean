import Derived.Test.YbulkbpcaGreatTickD
import Derived.Deep.MidRow
namespace Go.Proofs.YbulkbpcaGreat
open Go.ChangeShapes Go.WideShapes Go.ChangeAt Go.RowKit
set_option linter.unusedVariables false

section
variable {N H G gS nS capS : Nat} {uk ua : ByteArray} {sk sa : Nat → ByteArray} {f b : Tb} {ls : List (List Value)} {os : List Value} {w0 : World} {c : Nat → Value} {wr : World}

theorem TI.set_ (t : TI N H G gS nS capS uk ua sk sa f b ls os w0 c wr) (i : Nat) (hi : i < 258) (v : Value) (f' b' : Tb) (hp : TickPre (upd c i v) H uk ua 1) (hs : upd c i v 9 = c 9) (hf : f'.At (upd c i v) 21) (hb : b'.At (upd c i v) 32)
    (hfg : f'.g = f.g ∧ f'.n = f.n ∧ f'.kf = f.kf ∧ f'.af = f.af) (hbg : b'.g = b.g ∧ b'.n = b.n ∧ b'.kf = b.kf ∧ b'.af = b.af) :
    TI N H G gS nS capS uk ua sk sa f' b' ls os w0 (upd c i v) (wr.setCell ⟨N, i, none⟩ v) := by
  obtain ⟨l1, l2, l3, l4, l5⟩ := t.lt
  obtain ⟨n1, n2, n3, n4, n5, n6, n7⟩ := t.ne
  obtain ⟨q1, q2, q3, q4⟩ := hfg
  obtain ⟨p1, p2, p3, p4⟩ := hbg
  have hk : Kp (fun j => j = N) wr (wr.setCell ⟨N, i, none⟩ v) := (Kp.refl (fun j => j = N) wr).setCell (p := ⟨N, i, none⟩) (fun _ => rfl) v
  refine ⟨t.n.set i hi v, hp, hf, hb, hs.trans t.s, ?_, ?_, t.rs.block (hk.block _ (by omega) n7), t.h.kept hk (fun k hk => by subst hk; exact ⟨l1, n1⟩), t.k.trans (hk.mono fun k h => .inl h), ?_, ?_⟩
  · rw [q1, q2, q3, q4]; exact t.rf.block (hk.block _ (by omega) n5)
  · rw [p1, p2, p3, p4]; exact t.rb.block (hk.block _ (by omega) n6)
  · rw [q1, p1]; exact ⟨l1, l2, l3, l4, by simpa using l5⟩
  · rw [q1, p1]; exact t.ne

theorem TickPre.set {ti : Int} (p : TickPre c H uk ua ti) (i : Nat) (hi : (24 ≤ i ∧ i ≤ 28) ∨ (35 ≤ i ∧ i ≤ 39)) (v : Value) : TickPre (upd c i v) H uk ua ti := by
  have e : ∀ j, (j < 24 ∨ j = 58) → upd c i v j = c j := fun j hj => by unfold upd; rw [if_neg (by omega)]
  refine ⟨?_, ?_, ?_, ?_, ?_, ?_, ?_, ?_, ?_, ?_, ?_, ?_, ?_, ?_, ?_⟩ <;> (rw [e _ (by omega)]) <;> first | exact p.h0 | exact p.h1 | exact p.h2 | exact p.h3 | exact p.h7 | exact p.h8 | exact p.h13 | exact p.h14 | exact p.h15 | exact p.h16 | exact p.h17 | exact p.h18 | exact p.h19 | exact p.h20 | exact p.h58

theorem Tb.At.other {t : Tb} {T : Nat} (h : t.At c T) (i : Nat) (hi : i < T ∨ T + 7 < i) (v : Value) : t.At (upd c i v) T := by
  have e : ∀ j, (T ≤ j ∧ j ≤ T + 7) → upd c i v j = c j := fun j hj => by unfold upd; rw [if_neg (by omega)]
  refine ⟨?_, ?_, ?_, ?_, ?_, ?_⟩ <;> (rw [e _ (by omega)])
  · exact h.e
  · exact h.w
  · exact h.qk
  · exact h.qa
  · exact h.u
  · exact h.t

/-- A store into the forward table's own cells. -/
theorem TI.setF (t : TI N H G gS nS capS uk ua sk sa f b ls os w0 c wr) (i : Nat) (hi : 24 ≤ i ∧ i ≤ 28) (v : Value) (f' : Tb) (hf : f'.At (upd c i v) 21) (hfg : f'.g = f.g ∧ f'.n = f.n ∧ f'.kf = f.kf ∧ f'.af = f.af) :
    TI N H G gS nS capS uk ua sk sa f' b ls os w0 (upd c i v) (wr.setCell ⟨N, i, none⟩ v) :=
  t.set_ i (by omega) v f' b (t.p.set i (.inl hi) v) (by unfold upd; rw [if_neg (by omega)]) hf (t.tb.other i (by omega) v) hfg ⟨rfl, rfl, rfl, rfl⟩
theorem TI.setB (t : TI N H G gS nS capS uk ua sk sa f b ls os w0 c wr) (i : Nat) (hi : 35 ≤ i ∧ i ≤ 39) (v : Value) (b' : Tb) (hb : b'.At (upd c i v) 32) (hbg : b'.g = b.g ∧ b'.n = b.n ∧ b'.kf = b.kf ∧ b'.af = b.af) :
    TI N H G gS nS capS uk ua sk sa f b' ls os w0 (upd c i v) (wr.setCell ⟨N, i, none⟩ v) :=
  t.set_ i (by omega) v f b' (t.p.set i (.inr hi) v) (by unfold upd; rw [if_neg (by omega)]) (t.tf.other i (by omega) v) hb ⟨rfl, rfl, rfl, rfl⟩ hbg

theorem TI.drewN (t : TI N H G gS nS capS uk ua sk sa f b ls os w0 c wr) (q : Nat) : TI N H G gS nS capS uk ua sk sa f b ls os w0 c (wr.drewN q) :=
  t.later ⟨rfl, rfl, rfl, Nat.le_refl _, fun _ _ => rfl⟩

end

/-- What one tick leaves. -/
def Ticked (N H G : Nat) (uk ua pk pa : ByteArray) (f b : Tb) (w w' : World) : Prop :=
  ∃ c', Blk w' N 258 c' ∧ c' 14 = .int .i64 1 ∧ f.step.At c' 21 ∧ b.step.At c' 32 ∧
    (∃ g cap, HostSt w' H G (.slice (some ⟨g, 0, none⟩) 1 cap) (f.sent b 0 uk ua pk pa ++ b.sent f 1 uk ua ⟨#[]⟩ ⟨#[]⟩) (f.noted ++ b.noted ++ [.int .u8 87]) ∧ w'.cell? ⟨g, 0, none⟩ = some (.int .i64 1000000000)) ∧
    Kp (fun j => j = N ∨ j = H ∨ G ≤ j) w w'

theorem method_wake (a : Addr) (w : World) : Sem.run Ybaz.prog (method 363 24 (.pointer (some a)) "Wake") w = .ok (182, .pointer (some a)) w := by kernel_rfl

/-- The question's cells as it is made. -/
def ask0 (d k : Int) : Nat → Value := fun j => if j = 0 then .int .u8 7 else if j = 1 then .int .u8 d else if j = 13 then .int .i64 k else zeroC j

theorem store_ask (w : World) (g : Nat) (hg : w.heap.size = g) (cs : Array Value) (hs : cs.size = 23) (d k : Int) :
    Sem.run Ybaz.prog (storeMsgAt (.pointer (some ⟨g, 0, none⟩)) (.agg (mA (ask0 d k)))) (w.alloc (.cells cs 72)) = .ok () (w.alloc (.cells (mA (ask0 d k)) 72)) :=
  store_msg w g hg cs hs _ (by unfold One; kernel_rfl)

theorem store_askL (w : World) (g : Nat) (hg : w.heap.size = g) (cs : Array Value) (hs : cs.size = 23) (d k : Int) :
    Sem.run Ybaz.prog (storeMsgAt (.pointer (some ⟨g, 0, none⟩)) (.agg #[.int .u8 7, .int .u8 d, .bool false, .bool false, .string ⟨#[]⟩, .string ⟨#[]⟩, .string ⟨#[]⟩, .string ⟨#[]⟩, .int .u64 0, .string ⟨#[]⟩, .string ⟨#[]⟩, .int .i64 0, .int .i64 0, .int .i64 k, .string ⟨#[]⟩, .string ⟨#[]⟩, .string ⟨#[]⟩, .string ⟨#[]⟩, .string ⟨#[]⟩, .int .i64 0, .pointer none, .string ⟨#[]⟩, .slice none 0 0])) (w.alloc (.cells cs 72)) = .ok () (w.alloc (.cells (mA (ask0 d k)) 72)) :=
  store_ask w g hg cs hs d k

theorem build_ask (d k : Int) (w : World) : Sem.run Ybaz.prog (Instr.build 72 #[(0, .int .u8 7), (1, .int .u8 d), (11, .int .i64 k)]) w = .ok (.agg (mA (ask0 d k))) w := by kernel_rfl

theorem setCells_blk {M n : Nat} (c' : Nat → Value) : ∀ (m o : Nat) (w : World) (c : Nat → Value), Blk w M n c → o + m ≤ n →
    Blk (w.setCells M o ((List.range m).map fun j => c' (o + j))) M n (fun j => if o ≤ j ∧ j < o + m then c' j else c j)
  | 0, o, w, c, h, _ => by simpa [World.setCells] using h.congr fun j _ => by rw [if_neg (by omega)]
  | m + 1, o, w, c, h, hm => by
    have := setCells_blk c' m (o + 1) _ _ (h.set o (by omega) (c' o)) (by omega)
    rw [List.range_succ_eq_map, List.map_cons, List.map_map, World.setCells]
    have e : ((fun j => c' (o + j)) ∘ Nat.succ) = fun j => c' (o + 1 + j) := by funext j; show c' (o + (j + 1)) = c' (o + 1 + j); congr 1; omega
    rw [e]
    refine this.congr fun j hj => ?_
    unfold upd
    by_cases h1 : o + 1 ≤ j ∧ j < o + 1 + m
    · rw [if_pos h1, if_pos (by omega)]
    · rw [if_neg h1]
      by_cases h2 : j = o
      · subst h2; rw [if_pos rfl, if_pos (by omega)]
      · rw [if_neg h2, if_neg (by omega)]

theorem heap_setCells (g k : Nat) (h : k ≠ g) : ∀ (vs : List Value) (o : Nat) (w : World), (w.setCells g o vs).heap[k]? = w.heap[k]?
  | [], _, _ => rfl
  | v :: r, o, w => by rw [World.setCells, heap_setCells g k h r, Below.heap_setCell _ _ _ _ h]

theorem Kp.setCells_ {S : Nat → Prop} (w : World) (g o : Nat) (vs : List Value) (hg : S g) : Kp S w (w.setCells g o vs) := by
  induction vs generalizing o w with
  | nil => exact Kp.refl _ _
  | cons v r ih => exact ((Kp.refl S w).setCell (p := ⟨g, o, none⟩) (fun _ => hg) v).trans (ih _ _)

/-- A whole message stored over a message that lies there. -/
theorem store_over (w : World) (M : Nat) (c0 c : Nat → Value) (hb : Blk w M 23 c0) (h1 : One c) :
    Sem.run Ybaz.prog (storeMsgAt (.pointer (some ⟨M, 0, none⟩)) (.agg (mA c))) w = .ok () (w.setCells M 0 (mL c)) :=
  run_storeAt_mid w M 0 72 (mA c) (fun j hj => ⟨by rw [Nat.zero_add, hb.1 j (by simpa [mA] using hj)]; rfl, by simpa using hb.2 j⟩) (by kernel_rfl) h1

theorem over_blk {w : World} {M : Nat} {c0 : Nat → Value} (c : Nat → Value) (hb : Blk w M 23 c0) : Blk (w.setCells M 0 (mL c)) M 23 c := by
  have := setCells_blk c 23 0 w c0 hb (by omega)
  have e : (List.range 23).map (fun j => c (0 + j)) = mL c := by simp [List.range, List.range.loop, mL]
  rw [e] at this
  exact this.congr fun j hj => by rw [if_pos (by omega)]

theorem ask_eqF (k : Nat) (pk pa nk na mk : ByteArray) : ∀ j, j < 23 → upd (upd (upd (upd (upd (ask0 0 k) 6 (.string pk)) 7 (.string pa)) 14 (.string nk)) 15 (.string na)) 16 (.string mk) j = askC 0 pk pa nk na mk k j := by
  intro j _
  unfold upd askC ask0
  by_cases h0 : j = 0; · subst h0; rfl
  by_cases h1 : j = 1; · subst h1; rfl
  by_cases h6 : j = 6; · subst h6; rfl
  by_cases h7 : j = 7; · subst h7; rfl
  by_cases h13 : j = 13; · subst h13; rfl
  by_cases h14 : j = 14; · subst h14; rfl
  by_cases h15 : j = 15; · subst h15; rfl
  by_cases h16 : j = 16; · subst h16; rfl
  simp [h0, h1, h6, h7, h13, h14, h15, h16]
theorem ask_eqB (k : Nat) (nk na mk : ByteArray) : ∀ j, j < 23 → upd (upd (upd (ask0 1 k) 14 (.string nk)) 15 (.string na)) 16 (.string mk) j = askC 1 ⟨#[]⟩ ⟨#[]⟩ nk na mk k j := by
  intro j _
  unfold upd askC ask0
  by_cases h0 : j = 0; · subst h0; rfl
  by_cases h1 : j = 1; · subst h1; rfl
  by_cases h6 : j = 6; · subst h6; rfl
  by_cases h7 : j = 7; · subst h7; rfl
  by_cases h13 : j = 13; · subst h13; rfl
  by_cases h14 : j = 14; · subst h14; rfl
  by_cases h15 : j = 15; · subst h15; rfl
  by_cases h16 : j = 16; · subst h16; rfl
  simp [h0, h1, h6, h7, h13, h14, h15, h16]
theorem ask_one (d k : Nat) (pk pa nk na mk : ByteArray) : One (askC d pk pa nk na mk k) := by unfold One; rw [← Array.all_toList]; rfl
theorem ask_oneS (d k : Nat) (pk pa nk na mk tk ta uk ua : ByteArray) : ∀ u ∈ sL tk ta (upd (upd (askC d pk pa nk na mk k) 4 (.string uk)) 5 (.string ua)), u.oneCell' = true := by
  have : (sL tk ta (upd (upd (askC d pk pa nk na mk k) 4 (.string uk)) 5 (.string ua))).all (·.oneCell') = true := by rfl
  exact fun u hu => List.all_eq_true.1 this u hu

theorem over_below {B : Nat} {w w' : World} {M : Nat} (h : Below B w w') (hM : B ≤ M) (vs : List Value) : Below B w (w'.setCells M 0 vs) := by
  have k : Kp (fun j => j = M) w' (w'.setCells M 0 vs) := Kp.setCells_ w' M 0 vs rfl
  exact ⟨k.os.trans h.os, k.tape.trans h.tape, k.output.trans h.output, Nat.le_trans h.size k.size, fun j hj => by rw [heap_setCells M j (by omega), h.block j hj]⟩

theorem TI.sent {N H G gS nS capS : Nat} {uk ua : ByteArray} {sk sa : Nat → ByteArray} {f b : Tb} {ls ls' : List (List Value)} {os os' : List Value} {w0 : World} {c : Nat → Value} {wr w' : World}
    (t : TI N H G gS nS capS uk ua sk sa f b ls os w0 c wr) (hh : HostSt w' H G (.slice none 0 0) ls' os') (hk : Kp (fun j => j = H ∨ G ≤ j) wr w') : TI N H G gS nS capS uk ua sk sa f b ls' os' w0 c w' := by
  obtain ⟨l1, l2, l3, l4, l5⟩ := t.lt
  obtain ⟨n1, n2, n3, n4, n5, n6, n7⟩ := t.ne
  exact ⟨t.n.kept hk (by omega) (by omega), t.p, t.tf, t.tb, t.s, t.rf.block (hk.block _ (by omega) (by omega)), t.rb.block (hk.block _ (by omega) (by omega)), t.rs.block (hk.block _ (by omega) (by omega)), hh, t.k.trans (hk.mono fun k h => .inr h), ⟨l1, l2, l3, l4, Nat.le_trans l5 hk.size⟩, t.ne⟩

theorem opp0 (w : World) : Calls Ybaz.prog 17 #[.int .u8 0] w fun e w' => e = .returned (.int .u8 1) ∧ w' = w := opposite_any 0 w (.inl rfl)
theorem opp1 (w : World) : Calls Ybaz.prog 17 #[.int .u8 1] w fun e w' => e = .returned (.int .u8 0) ∧ w' = w := opposite_any 1 w (.inr rfl)

/-- While a message is made: the other table lies, the message's block, the peer's box; nothing below the message turned. -/
structure En (N T g n M P : Nat) (kf af : Nat → ByteArray) (tk ta : ByteArray) (c : Nat → Value) (wd w : World) : Prop where
  hN : N < M
  hg : g < M
  hP : P < M
  cT : w.cell? ⟨N, T, none⟩ = some (.slice (some ⟨g, 0, none⟩) n n)
  r : Rgs w g n kf af
  m : Blk w M 23 c
  p : Blk w P 2 (peerC tk ta)
  b : Below M wd w
  hM : M < w.heap.size

theorem En.later {N T g n M P : Nat} {kf af : Nat → ByteArray} {tk ta : ByteArray} {c : Nat → Value} {wd w w' : World} (h : En N T g n M P kf af tk ta c wd w) (hB : Below w.heap.size w w') : En N T g n M P kf af tk ta c wd w' := by
  have := h.hN
  have := h.hg
  have := h.hP
  have := h.hM
  exact ⟨h.hN, h.hg, h.hP, (hB.cell (p := ⟨N, T, none⟩) (by show N < _; omega)).trans h.cT, h.r.block (hB.block _ (by omega)), h.m.below hB h.hM, h.p.below hB (by omega), h.b.trans (hB.mono (by omega)), Nat.lt_of_lt_of_le h.hM hB.size⟩

theorem En.drewN {N T g n M P : Nat} {kf af : Nat → ByteArray} {tk ta : ByteArray} {c : Nat → Value} {wd w : World} (h : En N T g n M P kf af tk ta c wd w) (q : Nat) : En N T g n M P kf af tk ta c wd (w.drewN q) := h.later ⟨rfl, rfl, rfl, Nat.le_refl _, fun _ _ => rfl⟩
theorem En.drew {N T g n M P : Nat} {kf af : Nat → ByteArray} {tk ta : ByteArray} {c : Nat → Value} {wd w : World} (h : En N T g n M P kf af tk ta c wd w) : En N T g n M P kf af tk ta c wd w.drew := h.later ⟨rfl, rfl, rfl, Nat.le_refl _, fun _ _ => rfl⟩
theorem En.set {N T g n M P : Nat} {kf af : Nat → ByteArray} {tk ta : ByteArray} {c : Nat → Value} {wd w : World} (h : En N T g n M P kf af tk ta c wd w) (i : Nat) (hi : i < 23) (v : Value) : En N T g n M P kf af tk ta (upd c i v) wd (w.setCell ⟨M, i, none⟩ v) := by
  have h1 := h.hN
  have h2 := h.hg
  have h3 := h.hP
  exact ⟨h1, h2, h3, by rw [World.cell?_setCell_other _ _ _ _ (by intro e; injection e; omega)]; exact h.cT, h.r.block (Below.heap_setCell w ⟨M, i, none⟩ v g (by show g ≠ M; omega)), h.m.set i hi v, h.p.setOther ⟨M, i, none⟩ (by show P ≠ M; omega) v, h.b.setCell (Nat.le_refl M) v, by simpa using h.hM⟩
theorem En.congr {N T g n M P : Nat} {kf af : Nat → ByteArray} {tk ta : ByteArray} {c c' : Nat → Value} {wd w : World} (h : En N T g n M P kf af tk ta c wd w) (e : ∀ j, j < 23 → c j = c' j) : En N T g n M P kf af tk ta c' wd w :=
  ⟨h.hN, h.hg, h.hP, h.cT, h.r, h.m.congr e, h.p, h.b, h.hM⟩
theorem En.over {N T g n M P : Nat} {kf af : Nat → ByteArray} {tk ta : ByteArray} {c : Nat → Value} {wd w : World} (h : En N T g n M P kf af tk ta c wd w) (c' : Nat → Value) : En N T g n M P kf af tk ta c' wd (w.setCells M 0 (mL c')) := by
  have h1 := h.hN
  have h2 := h.hg
  have h3 := h.hP
  exact ⟨h1, h2, h3, (World.cell?_of_block (heap_setCells M N (by omega) _ _ _)).trans h.cT, h.r.block (heap_setCells M g (by omega) _ _ _), over_blk c' h.m, h.p.block (heap_setCells M P (by omega) _ _ _), over_below h.b (Nat.le_refl M) _, Nat.lt_of_lt_of_le h.hM (Kp.setCells_ (S := fun j => j = M) w M 0 (mL c') rfl).size⟩

theorem En.entry {N T g n M P : Nat} {kf af : Nat → ByteArray} {tk ta : ByteArray} {c : Nat → Value} {wd w : World} (h : En N T g n M P kf af tk ta c wd w) (i : Int) :
    Calls Ybaz.prog 18 #[.pointer (some ⟨N, T, none⟩), .int .i64 i] w fun e w' => e = .returned (.agg #[.string (atP n kf i), .string (atP n af i)]) ∧ En N T g n M P kf af tk ta c wd w' := by
  have := h.hN
  have := h.hg
  have := h.hM
  refine (entry_any N T g n n kf af i w (by omega) (by omega) h.cT h.r).mono ?_
  rintro e w' ⟨rfl, hB⟩
  exact ⟨rfl, h.later hB⟩
end Go.Proofs.YbulkbpcaGreat
