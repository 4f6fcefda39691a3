import Derived.Test.YbulkbpcaGreatSend
namespace Go.Proofs.YbulkbpcaGreat
open Go.ChangeShapes Go.WideShapes Go.ChangeAt Go.RowKit
set_option linter.unusedVariables false

/-- What a node is that ticks in this law. -/
structure TickPre (c : Nat → Value) (H : Nat) (uk ua : ByteArray) (ticks : Int) : Prop where
  h0 : c 0 = .string uk
  h1 : c 1 = .string ua
  h2 : c 2 = .iface 24 (.pointer (some ⟨H, 0, none⟩))
  h3 : c 3 = .bool false
  h7 : c 7 = .int .i64 1
  h8 : c 8 = .map none
  h13 : c 13 = .slice none 0 0
  h14 : c 14 = .int .i64 ticks
  h15 : c 15 = .map none
  h16 : c 16 = .map none
  h17 : c 17 = .map none
  h18 : c 18 = .map none
  h19 : c 19 = .slice none 0 0
  h20 : c 20 = .slice none 0 0
  h58 : c 58 = .map none

/-- One table, as the law lays it: its rungs' block and number, the walk's level, the rungs' peers, the peer asked, unanswered, told. -/
structure Tb where
  g : Nat
  n : Nat
  k : Nat
  kf : Nat → ByteArray
  af : Nat → ByteArray
  qk : ByteArray
  qa : ByteArray
  u : Int
  t : Int

/-- The table's cells, at offset T of the node. -/
structure Tb.At (b : Tb) (c : Nat → Value) (T : Nat) : Prop where
  e : c T = .slice (some ⟨b.g, 0, none⟩) b.n b.n
  w : c (T + 3) = .int .i64 b.k
  qk : c (T + 4) = .string b.qk
  qa : c (T + 5) = .string b.qa
  u : c (T + 6) = .int .i64 b.u
  t : c (T + 7) = .int .u64 b.t

def Tb.told (b : Tb) : Bool := toldAt b.t b.k
def Tb.u0 (b : Tb) : Int := if peq (b.kf b.k) (b.af b.k) b.qk b.qa then b.u else 0
/-- One step of the walk. -/
def Tb.step (b : Tb) : Tb :=
  { b with k := if b.told then stepUp b.k b.n else b.k, qk := b.kf b.k, qa := b.af b.k, u := if b.told then b.u0 else b.u0 + 1, t := bits .andNot .u64 b.t (bitOf b.k) }

/-- The cells of a question, ahead of its sending. -/
def askC (d : Nat) (pk pa nk na mk : ByteArray) (k : Nat) : Nat → Value := fun j =>
  if j = 0 then .int .u8 7 else if j = 1 then .int .u8 d else if j = 6 then .string pk else if j = 7 then .string pa else if j = 13 then .int .i64 k
  else if j = 14 then .string nk else if j = 15 then .string na else if j = 16 then .string mk else zeroC j

/-- What one step sends: table b, the other table o, the peer passed on. -/
def Tb.sent (b o : Tb) (d : Nat) (uk ua pk pa : ByteArray) : List (List Value) :=
  if b.told then [] else [sL (b.kf b.k) (b.af b.k) (upd (upd (askC d pk pa (atP o.n o.kf b.k) (atP o.n o.af b.k) (atP o.n o.kf ((b.k : Int) - 1)) b.k) 4 (.string uk)) 5 (.string ua))]
def Tb.noted (b : Tb) : List Value := if b.told then [] else [.int .u8 83]

/-- While the node ticks: the tables as they stand, what was sent, what was noted; the rungs and the sample lie as they lay. -/
structure TI (N H G gS nS capS : Nat) (uk ua : ByteArray) (sk sa : Nat → ByteArray) (f b : Tb) (ls : List (List Value)) (os : List Value) (w0 : World) (c : Nat → Value) (wr : World) : Prop where
  n : Blk wr N 258 c
  p : TickPre c H uk ua 1
  tf : f.At c 21
  tb : b.At c 32
  s : c 9 = .slice (some ⟨gS, 0, none⟩) nS capS
  rf : Rgs wr f.g f.n f.kf f.af
  rb : Rgs wr b.g b.n b.kf b.af
  rs : Prs wr gS nS sk sa
  h : HostSt wr H G (.slice none 0 0) ls os
  k : Kp (fun j => j = N ∨ j = H ∨ G ≤ j) w0 wr
  lt : N < G ∧ f.g < G ∧ b.g < G ∧ gS < G ∧ G ≤ wr.heap.size
  ne : N ≠ H ∧ f.g ≠ H ∧ b.g ≠ H ∧ gS ≠ H ∧ f.g ≠ N ∧ b.g ≠ N ∧ gS ≠ N

theorem HostSt.kept {S : Nat → Prop} {w w' : World} {H G : Nat} {K : Value} {ls : List (List Value)} {os : List Value} (h : HostSt w H G K ls os) (hk : Kp S w w') (hS : ∀ k, S k → k < G ∧ k ≠ H) : HostSt w' H G K ls os := by
  obtain ⟨A, O, h1, h2, h3, h4, h5, h6⟩ := h
  have keep : ∀ (e sz : Nat) (V : Value) (n : Nat) (xs : List Value), w.ownsRow G e sz V n xs → w'.ownsRow G e sz V n xs := by
    intro e sz V n xs h
    refine ⟨h.1, ?_⟩
    rcases h.2 with hn | ⟨g, cap, cur, rfl, hb, hg, rest⟩
    · exact .inl hn
    · refine .inr ⟨g, cap, cur, rfl, hb, ?_, rest⟩
      rw [hk.block g (Array.getElem?_eq_some_iff.1 hg).1 (fun e => by have := (hS g e).1; omega)]
      exact hg
  exact ⟨A, O, h1.kept hk (by omega) (fun e => (hS H e).2 rfl), keep _ _ _ _ _ h2, keep _ _ _ _ _ h3, h4, h5, Nat.le_trans h6 hk.size⟩

theorem Rgs.block {w w' : World} {g n : Nat} {kf af : Nat → ByteArray} (h : Rgs w g n kf af) (hb : w'.heap[g]? = w.heap[g]?) : Rgs w' g n kf af := fun j hj =>
  ⟨(World.cell?_of_block hb).trans (h j hj).1, (World.cell?_of_block hb).trans (h j hj).2⟩
theorem Prs.block {w w' : World} {g n : Nat} {kf af : Nat → ByteArray} (h : Prs w g n kf af) (hb : w'.heap[g]? = w.heap[g]?) : Prs w' g n kf af := fun j hj =>
  ⟨(World.cell?_of_block hb).trans (h j hj).1, (World.cell?_of_block hb).trans (h j hj).2⟩

theorem TI.later {N H G gS nS capS : Nat} {uk ua : ByteArray} {sk sa : Nat → ByteArray} {f b : Tb} {ls : List (List Value)} {os : List Value} {w0 : World} {c : Nat → Value} {wr w' : World}
    (t : TI N H G gS nS capS uk ua sk sa f b ls os w0 c wr) (hb : Below wr.heap.size wr w') : TI N H G gS nS capS uk ua sk sa f b ls os w0 c w' := by
  obtain ⟨l1, l2, l3, l4, l5⟩ := t.lt
  exact ⟨t.n.below hb (by omega), t.p, t.tf, t.tb, t.s, t.rf.block (hb.block _ (by omega)), t.rb.block (hb.block _ (by omega)), t.rs.block (hb.block _ (by omega)), t.h.below hb, t.k.then hb, ⟨l1, l2, l3, l4, Nat.le_trans l5 hb.size⟩, t.ne⟩
end Go.Proofs.YbulkbpcaGreat
