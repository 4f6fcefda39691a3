import Derived.Test.YbulkbpdqGreatHeadA
namespace Go.Proofs.YbulkbpdqGreat
open Go.ChangeShapes Go.WideShapes Go.ChangeAt Go.RowKit
set_option linter.unusedVariables false

def srcI (D : Drawn) (i : Nat) : Int := match D.src i with | some j => (j : Int) | none => -1
def rowO (D : Drawn) (k i : Nat) : Value := if i < k then .string (D.og i) else .string ⟨#[]⟩
def rowT (D : Drawn) (k i : Nat) : Value := if i < k then ptr (D.b1 + i) else .pointer none
def rowS (D : Drawn) (k i : Nat) : Value := if i < k then .int .i64 (srcI D i) else .int .i64 0

/-- Behind k transactions. -/
structure P1 (D : Drawn) (TS OG SR : Nat) (w1 : World) (k : Nat) (wr : World) : Prop where
  tx : ∀ i, i < k → Blk wr (D.b1 + i) 19 (txC (D.age i) (D.og i) nilS nilS false) ∧ Raw wr (D.b1 + i)
  qt : Blk wr TS D.n (rowT D k)
  qo : Blk wr OG D.n (rowO D k)
  qs : Blk wr SR D.n (rowS D k)
  sz : wr.heap.size = D.b1 + k
  kp : Kp (fun b => b = TS ∨ b = OG ∨ b = SR) w1 wr
  lo : TS < D.b1 ∧ OG < D.b1 ∧ SR < D.b1

theorem row_step {f : Nat → Value} {z : Nat → Value} {k n : Nat} (j : Nat) : upd (fun i => if i < k then f i else z i) k (f k) j = (if j < k + 1 then f j else z j) := by
  unfold upd
  by_cases e : j = k
  · subst e; simp
  · have : (j < k + 1) = (j < k) := propext (by omega)
    simp only [e, if_false, this]

theorem P1.step {D : Drawn} {TS OG SR : Nat} {w1 : World} {k : Nat} {wr wE : World} (h : P1 D TS OG SR w1 k wr) (hk : k < D.n) (hO : Blk wE OG D.n (upd (rowO D k) k (.string (D.og k)))) (hT : Blk wE TS D.n (upd (rowT D k) k (ptr (D.b1 + k)))) (hS : Blk wE SR D.n (upd (rowS D k) k (.int .i64 (srcI D k)))) (hx : Blk wE (D.b1 + k) 19 (txC (D.age k) (D.og k) nilS nilS false) ∧ Raw wE (D.b1 + k)) (hK : Kp (fun b => b = TS ∨ b = OG ∨ b = SR) wr wE) (hs : wE.heap.size = wr.heap.size + 1) : P1 D TS OG SR w1 (k + 1) wE := by
  have hlo := h.lo
  have hsz := h.sz
  refine ⟨fun i hi => ?_, hT.congr fun j hj => row_step (f := fun i => ptr (D.b1 + i)) (n := D.n) j, hO.congr fun j hj => row_step (f := fun i => .string (D.og i)) (n := D.n) j, hS.congr fun j hj => row_step (f := fun i => .int .i64 (srcI D i)) (n := D.n) j, by omega, h.kp.trans hK, hlo⟩
  by_cases e : i = k
  · subst e; exact hx
  · have ht := h.tx i (by omega)
    have hb := hK.block (D.b1 + i) (by omega) (by omega)
    exact ⟨ht.1.block hb, ht.2.block hb⟩

theorem pre_of {D : Drawn} {ag : Bool} {nb N MI MV TS OG SR : Nat} {c : Nat → Value} {w1 wr : World} (h : P1 D TS OG SR w1 D.n wr) (hn : D.n ≤ 300) (hsrc : ∀ k j, k < D.n → D.src k = some j → j < D.n) (hw1 : w1.heap.size = D.b1) (qn : Blk w1 nb 1 (fun _ => .int .i64 D.n)) (qN : Blk w1 N 209 c) (mi : MapF Value.string w1 MI (fun _ => none)) (mv : MapF Value.string w1 MV (fun _ => none))
    (c2 : c 2 = .string (stB ag)) (c3 : c 3 = .map (some MI)) (c4 : c 4 = .map (some MV)) (c5 : c 5 = .int .i32 0) (c7 : c 7 = .slice none 0 0) (c11 : c 11 = .slice none 0 0) (c206 : c 206 = .slice none 0 0) (c208 : c 208 = .pointer none)
    (ho : nb < N ∧ N < MI ∧ MI < MV ∧ MV < TS ∧ TS < OG ∧ OG < SR ∧ SR < D.b1) : Pre D ag nb N MI MV TS OG SR c (wr.alloc (.cells (madeCells #[.pointer none] D.n) 52)) := by
  have hsz := h.sz
  have hal : ∀ b, b < wr.heap.size → (wr.alloc (.cells (madeCells #[.pointer none] D.n) 52)).heap[b]? = wr.heap[b]? := fun b hb => Below.heap_alloc _ _ _ hb
  have hk : ∀ b, b < TS → (wr.alloc (.cells (madeCells #[.pointer none] D.n) 52)).heap[b]? = w1.heap[b]? := fun b hb => (hal b (by omega)).trans (h.kp.block b (by omega) (by omega))
  refine ⟨hn, hsrc, qn.block (hk nb (by omega)), qN.block (hk N (by omega)), (h.qt.block (hal TS (by omega))).congr fun j hj => ?_, (h.qo.block (hal OG (by omega))).congr fun j hj => ?_, (h.qs.block (hal SR (by omega))).congr fun j hj => ?_, mv.block (hk MV (by omega)), c2, c3, c4, c5, c7, c11, c206, c208, by omega, by omega, ⟨?_, ?_, ?_, ?_, ?_, ?_, ?_, ?_, Kp.refl _ _, by omega⟩⟩
  · unfold rowT; rw [if_pos hj]
  · unfold rowO; rw [if_pos hj]
  · unfold rowS srcI; rw [if_pos hj]; rfl
  · intro i hi; omega
  · intro i hi; omega
  · intro i hi; omega
  · intro i hi; omega
  · intro i hi
    have ht := h.tx i hi
    rw [if_neg (by omega)]
    exact ⟨ht.1.block (hal _ (by omega)), ht.2.block (hal _ (by omega))⟩
  · refine ⟨_, mi.block (hk MI (by omega)), fun i hi => ?_⟩
    rw [if_neg (by omega)]
  · have hm := made_blk wr (.pointer none) D.n 52
    rw [hsz] at hm
    exact hm.congr fun j hj => by rw [if_neg (by omega)]
  · simp [hsz, Drawn.b2]
def phB (m : Nat) : ByteArray := if m = 0 then ⟨#[114, 117, 110, 110, 105, 110, 103]⟩ else if m = 1 then ⟨#[99, 111, 109, 109, 105, 116, 116, 105, 110, 103]⟩ else comB

/-- What lies ahead of the first loop. -/
structure H1 (len : Nat) (ag : Bool) (w : World) (PH TS OG SR : Nat) (c : Nat → Value) (w1 : World) : Prop where
  ord : PH = w.heap.size + 4 ∧ TS = PH + 1 ∧ OG = TS + 1 ∧ SR = OG + 1 ∧ w1.heap.size = SR + 1
  lo : Below w.heap.size w w1
  qn : Blk w1 w.heap.size 1 (fun _ => .int .i64 len)
  qN : Blk w1 (w.heap.size + 1) 209 c
  mi : MapF Value.string w1 (w.heap.size + 2) (fun _ => none)
  mv : MapF Value.string w1 (w.heap.size + 3) (fun _ => none)
  c2 : c 2 = .string (stB ag)
  c3 : c 3 = .map (some (w.heap.size + 2))
  c4 : c 4 = .map (some (w.heap.size + 3))
  c5 : c 5 = .int .i32 0
  c7 : c 7 = .slice none 0 0
  c11 : c 11 = .slice none 0 0
  c206 : c 206 = .slice none 0 0
  c208 : c 208 = .pointer none
  ph : Blk w1 PH 3 (fun m => .string (phB m))
  qt : Blk w1 TS len (fun _ => .pointer none)
  qo : Blk w1 OG len (fun _ => .string ⟨#[]⟩)
  qs : Blk w1 SR len (fun _ => .int .i64 0)

theorem head_start (len : Nat) (ag : Bool) (w wN : World) (c : Nat → Value) (h : NewAt (stB ag) (w.alloc (.cells #[.int .i64 len] 3)) wN c) :
    H1 len ag w wN.heap.size (wN.heap.size + 1) (wN.heap.size + 1 + 1) (wN.heap.size + 1 + 1 + 1) c ((((wN.alloc (.cells #[.string ⟨#[114, 117, 110, 110, 105, 110, 103]⟩, .string ⟨#[99, 111, 109, 109, 105, 116, 116, 105, 110, 103]⟩, .string ⟨#[99, 111, 109, 109, 105, 116, 116, 101, 100]⟩] 27)).alloc (.cells (madeCells #[.pointer none] len) 34)).alloc (.cells (madeCells #[.string ⟨#[]⟩] len) 26)).alloc (.cells (madeCells #[.int .i64 0] len) 3)) := by
  have hs := h.sz
  have hq := h.q
  have hmi := h.mi
  have hmv := h.mv
  have hc3 := h.c3
  have hc4 := h.c4
  have hb := h.b
  rw [World.size_alloc] at hs hq hmi hmv hc3 hc4 hb
  have k4 : ∀ b, b < wN.heap.size → ((((wN.alloc (.cells #[.string ⟨#[114, 117, 110, 110, 105, 110, 103]⟩, .string ⟨#[99, 111, 109, 109, 105, 116, 116, 105, 110, 103]⟩, .string ⟨#[99, 111, 109, 109, 105, 116, 116, 101, 100]⟩] 27)).alloc (.cells (madeCells #[.pointer none] len) 34)).alloc (.cells (madeCells #[.string ⟨#[]⟩] len) 26)).alloc (.cells (madeCells #[.int .i64 0] len) 3)).heap[b]? = wN.heap[b]? := fun b hb => by
    rw [Below.heap_alloc _ _ _ (by simp <;> omega), Below.heap_alloc _ _ _ (by simp <;> omega), Below.heap_alloc _ _ _ (by simp <;> omega), Below.heap_alloc _ _ _ hb]
  have hn0 : Blk (w.alloc (.cells #[.int .i64 len] 3)) w.heap.size 1 (fun _ => .int .i64 len) := (Blk.fresh w #[.int .i64 len] 3).congr fun j hj => by have h0 : j = 0 := (by simpa using hj); subst h0; rfl
  refine ⟨⟨by omega, rfl, rfl, rfl, by simp⟩, ?_, (hn0.block (hb.block _ (by omega))).block (k4 _ (by omega)), hq.block (k4 _ (by omega)), hmi.block (k4 _ (by omega)), hmv.block (k4 _ (by omega)), h.c2, hc3, hc4, h.c5, h.c7, h.c11, h.c206, h.c208, ?_, ?_, ?_, ?_⟩
  · have h0 : Below w.heap.size w (w.alloc (.cells #[.int .i64 len] 3)) := (Below.refl _ w).alloc (Nat.le_refl _) _
    exact (((((h0.trans (hb.mono (by omega))).alloc (by omega) _).alloc (by simp <;> omega) _).alloc (by simp <;> omega) _).alloc (by simp <;> omega) _)
  · have h0 := Blk.fresh wN #[.string ⟨#[114, 117, 110, 110, 105, 110, 103]⟩, .string ⟨#[99, 111, 109, 109, 105, 116, 116, 105, 110, 103]⟩, .string ⟨#[99, 111, 109, 109, 105, 116, 116, 101, 100]⟩] 27
    have h1 : Blk _ wN.heap.size 3 (fun m => .string (phB m)) := h0.congr fun j hj => by
      have hj3 : j < 3 := by simpa using hj
      rcases (show j = 0 ∨ j = 1 ∨ j = 2 from by omega) with rfl | rfl | rfl <;> rfl
    exact ((h1.alloc (by simp) _).alloc (by simp <;> omega) _).alloc (by simp <;> omega) _
  · have h0 := made_blk (wN.alloc (.cells #[.string ⟨#[114, 117, 110, 110, 105, 110, 103]⟩, .string ⟨#[99, 111, 109, 109, 105, 116, 116, 105, 110, 103]⟩, .string ⟨#[99, 111, 109, 109, 105, 116, 116, 101, 100]⟩] 27)) (.pointer none) len 34
    rw [World.size_alloc] at h0
    exact (h0.alloc (by simp) _).alloc (by simp <;> omega) _
  · have h0 := made_blk ((wN.alloc (.cells #[.string ⟨#[114, 117, 110, 110, 105, 110, 103]⟩, .string ⟨#[99, 111, 109, 109, 105, 116, 116, 105, 110, 103]⟩, .string ⟨#[99, 111, 109, 109, 105, 116, 116, 101, 100]⟩] 27)).alloc (.cells (madeCells #[.pointer none] len) 34)) (.string ⟨#[]⟩) len 26
    rw [World.size_alloc, World.size_alloc] at h0
    exact h0.alloc (by simp) _
  · have h0 := made_blk (((wN.alloc (.cells #[.string ⟨#[114, 117, 110, 110, 105, 110, 103]⟩, .string ⟨#[99, 111, 109, 109, 105, 116, 116, 105, 110, 103]⟩, .string ⟨#[99, 111, 109, 109, 105, 116, 116, 101, 100]⟩] 27)).alloc (.cells (madeCells #[.pointer none] len) 34)).alloc (.cells (madeCells #[.string ⟨#[]⟩] len) 26)) (.int .i64 0) len 3
    rw [World.size_alloc, World.size_alloc, World.size_alloc] at h0
    exact h0

/-- The drawn transactions in the argument's row. -/
def ArgTx (w : World) (a : Option Addr) (len : Nat) (p q : Nat → Nat) (r : Nat → Int) : Prop :=
  ∀ j, j < len → ∃ b off, a = some ⟨b, off, none⟩ ∧ b < w.heap.size ∧ w.cell? ⟨b, off + j * 3, none⟩ = some (.int .u8 (p j)) ∧ w.cell? ⟨b, off + j * 3 + 1, none⟩ = some (.int .u8 (q j)) ∧ w.cell? ⟨b, off + j * 3 + 2, none⟩ = some (.int .i16 (r j)) ∧ p j ≤ 255 ∧ q j ≤ 255 ∧ -32768 ≤ r j ∧ r j ≤ 32767

def drawn (n b1 : Nat) (p q : Nat → Nat) (r : Nat → Int) : Drawn := ⟨n, fun k => phB (p k % 3), fun k => (q k : Int), fun k => if 0 ≤ r k then some ((r k).toNat % n) else none, b1⟩

theorem H1.p1 {len : Nat} {ag : Bool} {w : World} {PH TS OG SR : Nat} {c : Nat → Value} {w1 : World} (h : H1 len ag w PH TS OG SR c w1) (p q : Nat → Nat) (r : Nat → Int) : P1 (drawn len (SR + 1) p q r) TS OG SR w1 0 w1 := by
  have ho := h.ord
  refine ⟨fun i hi => absurd hi (by omega), h.qt.congr fun j hj => ?_, h.qo.congr fun j hj => ?_, h.qs.congr fun j hj => ?_, by show _ = SR + 1 + 0; omega, Kp.refl _ _, by show TS < SR + 1 ∧ OG < SR + 1 ∧ SR < SR + 1; omega⟩
  · unfold rowT; rw [if_neg (by omega)]
  · unfold rowO; rw [if_neg (by omega)]
  · unfold rowS; rw [if_neg (by omega)]

theorem H1.pre {len : Nat} {ag : Bool} {w : World} {PH TS OG SR : Nat} {c : Nat → Value} {w1 wr : World} (h : H1 len ag w PH TS OG SR c w1) (hn : len ≤ 300) {p q : Nat → Nat} {r : Nat → Int} (h1 : P1 (drawn len (SR + 1) p q r) TS OG SR w1 len wr) : Pre (drawn len (SR + 1) p q r) ag w.heap.size (w.heap.size + 1) (w.heap.size + 2) (w.heap.size + 3) TS OG SR c (wr.alloc (.cells (madeCells #[.pointer none] len) 52)) := by
  have ho := h.ord
  refine pre_of h1 hn (fun k j hk hj => ?_) (by show _ = SR + 1; omega) h.qn h.qN h.mi h.mv h.c2 h.c3 h.c4 h.c5 h.c7 h.c11 h.c206 h.c208 (by show _ ∧ _ ∧ _ ∧ _ ∧ _ ∧ _ ∧ SR < SR + 1; omega)
  have hj' : (if 0 ≤ r k then some ((r k).toNat % len) else none) = some j := hj
  have hk' : k < len := hk
  split at hj'
  · injection hj' with e
    show j < len
    rw [← e]
    exact Nat.mod_lt _ (by omega)
  · cases hj'
theorem P1.drew {D : Drawn} {TS OG SR : Nat} {w1 : World} {k : Nat} {wr : World} (h : P1 D TS OG SR w1 k wr) : P1 D TS OG SR w1 k wr.drew :=
  ⟨fun i hi => ⟨(h.tx i hi).1.block rfl, (h.tx i hi).2.block rfl⟩, h.qt.block rfl, h.qo.block rfl, h.qs.block rfl, h.sz, h.kp.drew, h.lo⟩

theorem tx_blk (w : World) (a : Int) (ph : ByteArray) : Blk (w.alloc (.cells #[.int .u64 0, .string ⟨#[]⟩, .int .u32 0, .int .u64 0, .int .u64 0, .bool false, .string ⟨#[]⟩, .int .u64 0, .string ⟨#[]⟩, .pointer none, .bool false, .int .u64 0, .int .u64 0, .int .u64 a, .string ph, .slice none 0 0, .slice none 0 0, .bool false, .int .u64 0] 51)) w.heap.size 19 (txC a ph nilS nilS false) ∧ Raw (w.alloc (.cells #[.int .u64 0, .string ⟨#[]⟩, .int .u32 0, .int .u64 0, .int .u64 0, .bool false, .string ⟨#[]⟩, .int .u64 0, .string ⟨#[]⟩, .pointer none, .bool false, .int .u64 0, .int .u64 0, .int .u64 a, .string ph, .slice none 0 0, .slice none 0 0, .bool false, .int .u64 0] 51)) w.heap.size := by
  refine ⟨(Blk.fresh w #[.int .u64 0, .string ⟨#[]⟩, .int .u32 0, .int .u64 0, .int .u64 0, .bool false, .string ⟨#[]⟩, .int .u64 0, .string ⟨#[]⟩, .pointer none, .bool false, .int .u64 0, .int .u64 0, .int .u64 a, .string ph, .slice none 0 0, .slice none 0 0, .bool false, .int .u64 0] 51).congr fun j hj => ?_, ⟨_, 51, heap_alloc_new _ _⟩⟩
  have hj19 : j < 19 := by simpa using hj
  rcases (show j = 0 ∨ j = 1 ∨ j = 2 ∨ j = 3 ∨ j = 4 ∨ j = 5 ∨ j = 6 ∨ j = 7 ∨ j = 8 ∨ j = 9 ∨ j = 10 ∨ j = 11 ∨ j = 12 ∨ j = 13 ∨ j = 14 ∨ j = 15 ∨ j = 16 ∨ j = 17 ∨ j = 18 from by omega) with rfl | rfl | rfl | rfl | rfl | rfl | rfl | rfl | rfl | rfl | rfl | rfl | rfl | rfl | rfl | rfl | rfl | rfl | rfl <;> rfl

theorem P1.put {D : Drawn} {TS OG SR : Nat} {w1 : World} {k : Nat} {wr wS : World} (h : P1 D TS OG SR w1 k wr) (hk : k < D.n) (hne : OG ≠ TS ∧ OG ≠ SR ∧ TS ≠ SR)
    (hS : Blk wS SR D.n (upd (rowS D k) k (.int .i64 (srcI D k)))) (hK : Kp (fun b => b = SR) ((wr.setCell ⟨OG, k, none⟩ (.string (D.og k))).setCell ⟨TS, k, none⟩ (.pointer (some ⟨wr.heap.size, 0, none⟩))) wS) (hs : wS.heap.size = wr.heap.size) :
    P1 D TS OG SR w1 (k + 1) (wS.alloc (.cells #[.int .u64 0, .string ⟨#[]⟩, .int .u32 0, .int .u64 0, .int .u64 0, .bool false, .string ⟨#[]⟩, .int .u64 0, .string ⟨#[]⟩, .pointer none, .bool false, .int .u64 0, .int .u64 0, .int .u64 (D.age k), .string (D.og k), .slice none 0 0, .slice none 0 0, .bool false, .int .u64 0] 51)) := by
  have hsz := h.sz
  have hlo := h.lo
  have hT : Blk wS TS D.n (upd (rowT D k) k (ptr (D.b1 + k))) := by
    have h1 := (h.qt.setOther ⟨OG, k, none⟩ (fun e => hne.1 e.symm) (.string (D.og k))).set k hk (.pointer (some ⟨wr.heap.size, 0, none⟩))
    rw [hsz] at h1 hK
    exact h1.kept hK (by simp; omega) hne.2.2
  have hO : Blk wS OG D.n (upd (rowO D k) k (.string (D.og k))) := ((h.qo.set k hk (.string (D.og k))).setOther ⟨TS, k, none⟩ hne.1 _).kept hK (by simp; omega) hne.2.1
  have hx := tx_blk wS (D.age k) (D.og k)
  rw [hs, hsz] at hx
  refine h.step hk (hO.alloc (by omega) _) (hT.alloc (by omega) _) (hS.alloc (by omega) _) hx ?_ (by simp [hs])
  refine Kp.alloc ?_ _
  exact (((Kp.refl _ wr).setCell (p := ⟨OG, k, none⟩) (fun _ => .inr (.inl rfl)) _).setCell (p := ⟨TS, k, none⟩) (fun _ => .inl rfl) _).trans (hK.mono fun b e => .inr (.inr e))

theorem P1.put1 {D : Drawn} {TS OG SR : Nat} {w1 : World} {k : Nat} {wr : World} (h : P1 D TS OG SR w1 k wr) (hk : k < D.n) (hne : OG ≠ TS ∧ OG ≠ SR ∧ TS ≠ SR) {z : Int} (hz : srcI D k = z) :
    P1 D TS OG SR w1 (k + 1) ((((wr.setCell ⟨OG, k, none⟩ (.string (D.og k))).setCell ⟨TS, k, none⟩ (.pointer (some ⟨wr.heap.size, 0, none⟩))).setCell ⟨SR, k, none⟩ (.int .i64 z)).alloc (.cells #[.int .u64 0, .string ⟨#[]⟩, .int .u32 0, .int .u64 0, .int .u64 0, .bool false, .string ⟨#[]⟩, .int .u64 0, .string ⟨#[]⟩, .pointer none, .bool false, .int .u64 0, .int .u64 0, .int .u64 (D.age k), .string (D.og k), .slice none 0 0, .slice none 0 0, .bool false, .int .u64 0] 51)) := by
  subst hz
  exact h.put hk hne (((h.qs.setOther ⟨OG, k, none⟩ (fun e => hne.2.1 e.symm) _).setOther ⟨TS, k, none⟩ (fun e => hne.2.2 e.symm) _).set k hk _) ((Kp.refl (fun b => b = SR) _).setCell (p := ⟨SR, k, none⟩) (fun _ => rfl) _) (by simp)
theorem P1.put2 {D : Drawn} {TS OG SR : Nat} {w1 : World} {k : Nat} {wr : World} (h : P1 D TS OG SR w1 k wr) (hk : k < D.n) (hne : OG ≠ TS ∧ OG ≠ SR ∧ TS ≠ SR) {z : Int} (hz : srcI D k = z) (y : Value) :
    P1 D TS OG SR w1 (k + 1) (((((wr.setCell ⟨OG, k, none⟩ (.string (D.og k))).setCell ⟨TS, k, none⟩ (.pointer (some ⟨wr.heap.size, 0, none⟩))).setCell ⟨SR, k, none⟩ y).setCell ⟨SR, k, none⟩ (.int .i64 z)).alloc (.cells #[.int .u64 0, .string ⟨#[]⟩, .int .u32 0, .int .u64 0, .int .u64 0, .bool false, .string ⟨#[]⟩, .int .u64 0, .string ⟨#[]⟩, .pointer none, .bool false, .int .u64 0, .int .u64 0, .int .u64 (D.age k), .string (D.og k), .slice none 0 0, .slice none 0 0, .bool false, .int .u64 0] 51)) := by
  subst hz
  have h2 := ((((h.qs.setOther ⟨OG, k, none⟩ (fun e => hne.2.1 e.symm) (.string (D.og k))).setOther ⟨TS, k, none⟩ (fun e => hne.2.2 e.symm) (.pointer (some ⟨wr.heap.size, 0, none⟩))).set k hk y).set k hk (.int .i64 (srcI D k))).congr (d := upd (rowS D k) k (.int .i64 (srcI D k))) fun j hj => by
    unfold upd
    by_cases e : j = k <;> simp [e]
  exact h.put hk hne h2 (((Kp.refl (fun b => b = SR) _).setCell (p := ⟨SR, k, none⟩) (fun _ => rfl) _).setCell (p := ⟨SR, k, none⟩) (fun _ => rfl) _) (by simp)
end Go.Proofs.YbulkbpdqGreat
