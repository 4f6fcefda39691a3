import Derived.Test.YbulkbpcaMerge
import Derived.Deep.WholeRow
namespace Go.Proofs.Ybulkbpca
open Go.ChangeShapes Go.WideShapes Go.ChangeAt Go.RowKit
set_option linter.unusedVariables false
attribute [local go_sem ↓] Go.wp_at_zero Go.wp_at_succ

set_option maxRecDepth 100000 in
set_option maxHeartbeats 1000000 in
/-- The law's own arc is the node's. -/
theorem zarc_any (f k t : ByteArray) (w : World) :
    Calls Yba.prog 7 #[.string f, .string k, .string t] w fun e w' => e = .returned (.bool (arc f k t)) ∧ w' = w := by
  by_cases he : f.toList = t.toList
  · obtain rfl := toList_inj he
    have HF : Hid (arc f k f = true) := arc_round f k
    have hbe : (f.toList == f.toList) = true := by simp
    clear he
    go_enter Yba.func7, Yba.ntmps7
    go_wp2
    go_ret
    exact ⟨by rw [HF.out]; rfl, rfl⟩
  have hbe : (f.toList == t.toList) = false := by simpa using he
  clear he
  cases h1 : Op.bytesLess f.toList t.toList
  · have HF : Hid (arc f k t = (!ltB k f || ltB k t)) := by unfold arc ltB; rw [h1]; rfl
    cases h2 : Op.bytesLess k.toList f.toList
    · have HG : Hid (arc f k t = true) := by rw [HF.out]; unfold ltB; rw [h2]; rfl
      go_enter Yba.func7, Yba.ntmps7
      go_wp2
      go_ret
      exact ⟨by rw [HG.out]; rfl, rfl⟩
    · have HG : Hid (arc f k t = Op.bytesLess k.toList t.toList) := by rw [HF.out]; unfold ltB; rw [h2]; rfl
      go_enter Yba.func7, Yba.ntmps7
      go_wp2
      go_ret
      exact ⟨by rw [HG.out]; rfl, rfl⟩
  · have HF : Hid (arc f k t = ((ltB f k || eqB f k) && ltB k t)) := by unfold arc ltB; rw [h1]; rfl
    cases h2 : (Op.bytesLess f.toList k.toList || f.toList == k.toList)
    · have HG : Hid (arc f k t = false) := by rw [HF.out]; unfold ltB eqB; rw [h2]; rfl
      go_enter Yba.func7, Yba.ntmps7
      go_wp2
      go_ret
      exact ⟨by rw [HG.out]; rfl, rfl⟩
    · have HG : Hid (arc f k t = Op.bytesLess k.toList t.toList) := by rw [HF.out]; unfold ltB eqB; rw [h2]; rfl
      go_enter Yba.func7, Yba.ntmps7
      go_wp2
      go_ret
      exact ⟨by rw [HG.out]; rfl, rfl⟩

/-- The law's text behind a region. -/
def isRegion (n : Nat) : Code → Bool
  | .region k _ _ => k == n
  | _ => false
def afterRegion (n : Nat) : Code → Option Code
  | .seq a b => if isRegion n a then some b else match afterRegion n a with
    | some c => some c
    | none => afterRegion n b
  | .scope c => afterRegion n c
  | .block _ c => afterRegion n c
  | .loop c => afterRegion n c
  | .cond _ a b => match afterRegion n a with
    | some c => some c
    | none => afterRegion n b
  | _ => none

/-- A message stored into a fresh variable, and built: behind names. -/
def storeMsgAt (x v : Value) : Sem Unit := Instr.storeAt 65 x v
theorem store_msg0 (x v : Value) : Instr.storeAt 65 x v = storeMsgAt x v := rfl
theorem store_msg (w : World) (g : Nat) (hg : w.heap.size = g) (cs : Array Value) (hs : cs.size = 23) (fk fa xk xa : ByteArray) (id : Int) (key : ByteArray) (hops : Int) :
    Sem.run Yba.prog (storeMsgAt (.pointer (some ⟨g, 0, none⟩)) (.agg (msgA fk fa xk xa id key hops))) (w.alloc (.cells cs 65)) = .ok () (w.alloc (.cells (msgA fk fa xk xa id key hops) 65)) := by
  subst hg
  exact run_storeAt_new w 65 cs (msgA fk fa xk xa id key hops) (by kernel_rfl) hs (by kernel_rfl)
theorem store_msgL (w : World) (g : Nat) (hg : w.heap.size = g) (cs : Array Value) (hs : cs.size = 23) (xk xa : ByteArray) (id : Int) (key : ByteArray) (hops : Int) :
    Sem.run Yba.prog (storeMsgAt (.pointer (some ⟨g, 0, none⟩)) (.agg #[.int .u8 0, .int .u8 0, .bool false, .bool false, .string ⟨#[]⟩, .string ⟨#[]⟩, .string xk, .string xa, .int .u64 id, .string key, .string ⟨#[]⟩, .int .i64 0, .int .i64 hops, .int .i64 0, .string ⟨#[]⟩, .string ⟨#[]⟩, .string ⟨#[]⟩, .string ⟨#[]⟩, .string ⟨#[]⟩, .int .i64 0, .pointer none, .string ⟨#[]⟩, .slice none 0 0])) (w.alloc (.cells cs 65)) = .ok () (w.alloc (.cells (msgA ⟨#[]⟩ ⟨#[]⟩ xk xa id key hops) 65)) :=
  store_msg w g hg cs hs ⟨#[]⟩ ⟨#[]⟩ xk xa id key hops

/-- What is known of the slice of ids that came in: it lies below block B. -/
def ArgAt (B : Nat) (w : World) (a : Option Addr) (len : Nat) (z : List Int) : Prop :=
  ∀ j, j < len → ∃ b off, a = some ⟨b, off, none⟩ ∧ b < B ∧ w.cell? ⟨b, off + j, none⟩ = some (.int .u64 (z.getD j 0))

theorem ArgAt.later {B : Nat} {w w' : World} {a : Option Addr} {len : Nat} {z : List Int} (h : ArgAt B w a len z) (hb : Below B w w') : ArgAt B w' a len z := by
  intro j hj
  obtain ⟨b, off, h1, h2, h3⟩ := h j hj
  exact ⟨b, off, h1, h2, (hb.cell (p := ⟨b, off + j, none⟩) h2).trans h3⟩

/-- The law's three peers, and what lay ahead of them. -/
def Three (w : World) (B : Nat) (a0 a1 a2 a3 xk xa : ByteArray) (wr : World) : Prop :=
  Blk wr B 2 (peerC a0 a1) ∧ Blk wr (B + 1) 2 (peerC a2 a3) ∧ Blk wr (B + 1 + 1) 2 (peerC xk xa) ∧ Below B w wr ∧ wr.heap.size = B + 1 + 1 + 1

theorem three_fresh (w : World) (a0 a1 a2 a3 a4 a5 : ByteArray) : Three w w.heap.size a0 a1 a2 a3 a4 a5 (((w.alloc (.cells #[.string a0, .string a1] 25)).alloc (.cells #[.string a2, .string a3] 25)).alloc (.cells #[.string a4, .string a5] 25)) := by
  refine ⟨((peer_fresh w a0 a1 25).alloc (by simp) _).alloc (by simp; omega) _, ?_, ?_, (((Below.refl _ w).alloc (Nat.le_refl _) _).alloc (by simp) _).alloc (by simp; omega) _, by simp⟩
  · have h := peer_fresh (w.alloc (.cells #[.string a0, .string a1] 25)) a2 a3 25
    simp only [World.size_alloc] at h
    exact h.alloc (by simp) _
  · have h := peer_fresh ((w.alloc (.cells #[.string a0, .string a1] 25)).alloc (.cells #[.string a2, .string a3] 25)) a4 a5 25
    simp only [World.size_alloc] at h
    exact h

/-- Whom the law's message names. -/
def XIs (a0 a1 a4 a5 xk xa : ByteArray) : Prop := (xk = a0 ∧ xa = a1) ∨ (xk = a4 ∧ xa = a5)

def hostNone : Nat → Value := fun j => if j = 2 then .int .i64 0 else .slice none 0 0

/-- The law's blocks: the three peers, the host, the node. -/
structure Lw (w : World) (B H N : Nat) (a0 a1 a2 a3 xk xa : ByteArray) (c : Nat → Value) (wr : World) : Prop where
  s : Blk wr B 2 (peerC a0 a1)
  q : Blk wr (B + 1) 2 (peerC a2 a3)
  x : Blk wr (B + 1 + 1) 2 (peerC xk xa)
  h : Blk wr H 3 hostNone
  n : Blk wr N 258 c
  bel : Below B w wr
  hH : B + 1 + 1 < H
  hN : H < N
  lt : N < wr.heap.size

theorem Lw.later {w : World} {B H N : Nat} {a0 a1 a2 a3 xk xa : ByteArray} {c : Nat → Value} {wr w' : World} {G : Nat} (l : Lw w B H N a0 a1 a2 a3 xk xa c wr) (hb : Below G wr w') (hG : N < G) : Lw w B H N a0 a1 a2 a3 xk xa c w' := by
  have h1 := l.hH
  have h2 := l.hN
  have h3 := hb.size
  have h4 := l.lt
  exact ⟨l.s.below hb (by omega), l.q.below hb (by omega), l.x.below hb (by omega), l.h.below hb (by omega), l.n.below hb (by omega), l.bel.trans (hb.mono (by omega)), h1, h2, by omega⟩

theorem Lw.node {w : World} {B H N : Nat} {a0 a1 a2 a3 xk xa : ByteArray} {c c' : Nat → Value} {wr w' : World} (l : Lw w B H N a0 a1 a2 a3 xk xa c wr) (hk : Kp (fun j => j = N) wr w') (hn : Blk w' N 258 c') : Lw w B H N a0 a1 a2 a3 xk xa c' w' := by
  have h1 := l.hH
  have h2 := l.hN
  have h3 := hk.size
  have h4 := l.lt
  exact ⟨l.s.kept hk (by omega) (by omega), l.q.kept hk (by omega) (by omega), l.x.kept hk (by omega) (by omega), l.h.kept hk (by omega) (by omega), hn, l.bel.trans (hk.below (by omega) (fun k hk => by omega)), h1, h2, by omega⟩

theorem Lw.set {w : World} {B H N : Nat} {a0 a1 a2 a3 xk xa : ByteArray} {c : Nat → Value} {wr : World} (l : Lw w B H N a0 a1 a2 a3 xk xa c wr) (i : Nat) (hi : i < 258) (v : Value) : Lw w B H N a0 a1 a2 a3 xk xa (upd c i v) (wr.setCell ⟨N, i, none⟩ v) :=
  l.node ((Kp.refl (fun j => j = N) wr).setCell (p := ⟨N, i, none⟩) (fun _ => rfl) v) (l.n.set i hi v)

theorem Lw.drew {w : World} {B H N : Nat} {a0 a1 a2 a3 xk xa : ByteArray} {c : Nat → Value} {wr : World} (l : Lw w B H N a0 a1 a2 a3 xk xa c wr) : Lw w B H N a0 a1 a2 a3 xk xa c wr.drew := ⟨l.s, l.q, l.x, l.h, l.n, l.bel.drew, l.hH, l.hN, l.lt⟩

/-- What is known of the node ahead of 'merge'. -/
structure NodeOk (c : Nat → Value) (N H : Nat) (r : Int) (a0 a1 a2 a3 : ByteArray) : Prop where
  is : NodeIs c a0 a1 r
  h2 : c 2 = .iface 26 (.pointer (some ⟨H, 0, none⟩))
  h5 : c 5 = .bool false
  h21 : c 21 = .slice (some ⟨N, 66, none⟩) 1 18
  h22 : c 22 = .slice (some ⟨N, 174, none⟩) 1 18
  h23 : c 23 = .int .i64 1
  h28 : ∃ o, c 28 = .int .u64 o
  h34 : c 34 = .int .i64 0
  h66 : c 66 = .string a2
  h67 : c 67 = .string a3
  h68 : ∃ m, c 68 = .string m

theorem NodeOk.upd {c : Nat → Value} {N H : Nat} {r : Int} {a0 a1 a2 a3 : ByteArray} (o : NodeOk c N H r a0 a1 a2 a3) (v : Value) : NodeOk (upd c 19 v) N H r a0 a1 a2 a3 :=
  ⟨⟨o.is.h0, o.is.h1, o.is.h3, o.is.h7, o.is.hr, o.is.hr5, o.is.h11, o.is.h12, o.is.h32, o.is.h43, o.is.h44, o.is.h54, o.is.h55, o.is.h56, o.is.h57, o.is.h58⟩, o.h2, o.h5, o.h21, o.h22, o.h23, o.h28, o.h34, o.h66, o.h67, o.h68⟩

theorem newC_pre (k a : ByteArray) (H : Addr) (T : TypeId) (r : Int) (N : Nat) : LinkPre N (newC k a H T r N 3) := .inl ⟨by kernel_rfl, by kernel_rfl, by kernel_rfl, 0, by kernel_rfl⟩

theorem newC_ok (N H : Nat) (r : Int) (a0 a1 a2 a3 : ByteArray) (c' : Nat → Value) (hr : 1 ≤ r) (hr5 : r ≤ 5) (hs : ∀ j, j ∉ [21, 22, 23, 24, 28, 29, 30, 66, 67, 68, 174] → c' j = newC a0 a1 ⟨H, 0, none⟩ 26 r N 3 j)
    (g21 : c' 21 = .slice (some ⟨N, 66, none⟩) 1 18) (g22 : c' 22 = .slice (some ⟨N, 174, none⟩) 1 18) (g23 : c' 23 = .int .i64 1) (g66 : c' 66 = .string a2) (g67 : c' 67 = .string a3) (g28 : ∃ o, c' 28 = .int .u64 o)
    (g68 : c' 68 = newC a0 a1 ⟨H, 0, none⟩ 26 r N 3 68 ∨ c' 68 = .string ⟨#[]⟩) : NodeOk c' N H r a0 a1 a2 a3 :=
  ⟨⟨(hs 0 (by decide)).trans (by kernel_rfl), (hs 1 (by decide)).trans (by kernel_rfl), (hs 3 (by decide)).trans (by kernel_rfl), (hs 7 (by decide)).trans (by kernel_rfl), hr, hr5, (hs 11 (by decide)).trans (by kernel_rfl), (hs 12 (by decide)).trans (by kernel_rfl),
      ⟨some ⟨N, 120, none⟩, 18, (hs 32 (by decide)).trans (by kernel_rfl)⟩, (hs 43 (by decide)).trans (by kernel_rfl), (hs 44 (by decide)).trans (by kernel_rfl), (hs 54 (by decide)).trans (by kernel_rfl), (hs 55 (by decide)).trans (by kernel_rfl), (hs 56 (by decide)).trans (by kernel_rfl), (hs 57 (by decide)).trans (by kernel_rfl), (hs 58 (by decide)).trans (by kernel_rfl)⟩,
    (hs 2 (by decide)).trans (by kernel_rfl), (hs 5 (by decide)).trans (by kernel_rfl), g21, g22, g23, g28, (hs 34 (by decide)).trans (by kernel_rfl), g66, g67,
    by rcases g68 with h | h
       · exact ⟨⟨#[]⟩, h.trans (by kernel_rfl)⟩
       · exact ⟨_, h⟩⟩

theorem Yba.infoCon : (Yba.prog.info? 61).map (fun i => (i.zero, i.size, i.bytes)) = some (some (.agg #[.string ⟨#[]⟩, .string ⟨#[]⟩, .int .u64 0, .int .i64 0, .int .i64 0]), 5, 56) := by kernel_rfl

/-- The cells of the first k contacts. -/
def conL (z : List Int) (k : Nat) : List Value := (List.range k).flatMap fun i => [.string ⟨#[99]⟩, .string ⟨#[]⟩, .int .u64 (z.getD i 0), .int .i64 i, .int .i64 0]

theorem conL_succ (z : List Int) (k : Nat) : conL z (k + 1) = conL z k ++ [.string ⟨#[99]⟩, .string ⟨#[]⟩, .int .u64 (z.getD k 0), .int .i64 k, .int .i64 0] := by
  unfold conL; rw [List.range_succ, List.flatMap_append]; simp

theorem conL_len (z : List Int) (k : Nat) : (conL z k).length = k * 5 := by
  induction k with
  | zero => rfl
  | succ k ih => rw [conL_succ]; simp [ih]; omega

theorem conL_get (z : List Int) (k i : Nat) (hi : i < k) (j : Nat) (hj : j < 5) : (conL z k)[i * 5 + j]? = ([.string ⟨#[99]⟩, .string ⟨#[]⟩, .int .u64 (z.getD i 0), .int .i64 i, .int .i64 0] : List Value)[j]? := by
  induction k with
  | zero => omega
  | succ k ih =>
    rw [conL_succ]
    by_cases h : i < k
    · rw [List.getElem?_append_left (by rw [conL_len]; omega)]; exact ih h
    · obtain rfl : i = k := by omega
      rw [List.getElem?_append_right (by rw [conL_len]; omega), conL_len]
      congr 1
      omega

/-- The contacts that the law lays are such a row. -/
theorem con_row {w : World} {base : Nat} {S : Value} {n : Nat} {z : List Int} (h : w.ownsRow base 61 5 S n (conL z n)) : ∃ g, base ≤ g ∧ (g = base ∨ g < w.heap.size) ∧ ConRow w S n (fun i => z.getD i 0) (fun i => (i : Int)) g := by
  rcases h.2 with ⟨rfl, rfl⟩ | ⟨g, cap, cur, rfl, hb, hg, hcap, hm, hs, ht⟩
  · exact ⟨base, Nat.le_refl _, .inl rfl, .inl ⟨rfl, rfl⟩⟩
  · have hcell : ∀ i, i < n → ∀ j v, j < 5 → ([.string ⟨#[99]⟩, .string ⟨#[]⟩, .int .u64 (z.getD i 0), .int .i64 i, .int .i64 0] : List Value)[j]? = some v → w.cell? ⟨g, i * 5 + j, none⟩ = some v := by
      intro i hi j v hj hv
      have hc := h.cellAt (i * 5 + j) (by omega)
      rw [hc]
      rw [← conL_get z n i hi j hj] at hv
      simp [hv]
    exact ⟨g, hb, .inr (Array.getElem?_eq_some_iff.1 hg).1, .inr ⟨cap, rfl, hcap, (Array.getElem?_eq_some_iff.1 hg).1, fun i hi => ⟨hcell i hi 0 _ (by omega) rfl, hcell i hi 1 _ (by omega) rfl, hcell i hi 2 _ (by omega) rfl, hcell i hi 3 _ (by omega) rfl, hcell i hi 4 _ (by omega) rfl⟩, fun o => h.frozenAt o⟩⟩

/-- The law's three peers behind 'merge'. -/
structure Lp (w : World) (B : Nat) (a0 a1 a2 a3 xk xa : ByteArray) (wr : World) : Prop where
  s : Blk wr B 2 (peerC a0 a1)
  q : Blk wr (B + 1) 2 (peerC a2 a3)
  x : Blk wr (B + 1 + 1) 2 (peerC xk xa)
  bel : Below B w wr
  lt : B + 1 + 1 < wr.heap.size

theorem Lp.later {w : World} {B : Nat} {a0 a1 a2 a3 xk xa : ByteArray} {wr w' : World} {G : Nat} (l : Lp w B a0 a1 a2 a3 xk xa wr) (hb : Below G wr w') (hG : B + 1 + 1 < G) : Lp w B a0 a1 a2 a3 xk xa w' := by
  have h3 := hb.size
  have h4 := l.lt
  exact ⟨l.s.below hb (by omega), l.q.below hb (by omega), l.x.below hb (by omega), l.bel.trans (hb.mono (by omega)), by omega⟩

theorem Lw.peers {w : World} {B H N : Nat} {a0 a1 a2 a3 xk xa : ByteArray} {c : Nat → Value} {wr w' : World} {S : Nat → Prop} (l : Lw w B H N a0 a1 a2 a3 xk xa c wr) (hk : Kp S wr w') (hS : ∀ k, S k → H ≤ k) : Lp w B a0 a1 a2 a3 xk xa w' := by
  have h1 := l.hH
  have h2 := l.hN
  have h3 := hk.size
  have h4 := l.lt
  have hn : ∀ k, k < H → ¬ S k := fun k hk h => by have := hS k h; omega
  exact ⟨l.s.kept hk (by omega) (hn _ (by omega)), l.q.kept hk (by omega) (hn _ (by omega)), l.x.kept hk (by omega) (hn _ (by omega)), l.bel.trans (hk.below (by omega) (fun k hk => hn _ (by omega))), by omega⟩

theorem ConRow.kept {S' : Nat → Prop} {w w' : World} {S : Value} {n : Nat} {vs ts : Nat → Int} {g : Nat} (h : ConRow w S n vs ts g) (hk : Kp S' w w') (hg : ¬ S' g) : ConRow w' S n vs ts g := by
  rcases h with h | ⟨cap, h1, h2, h3, h4, h5⟩
  · exact .inl h
  · have hb := hk.block g h3 hg
    have hc : ∀ o, w'.cell? ⟨g, o, none⟩ = w.cell? ⟨g, o, none⟩ := fun o => World.cell?_of_block hb
    exact .inr ⟨cap, h1, h2, Nat.lt_of_lt_of_le h3 hk.size, fun i hi => ⟨(hc _).trans (h4 i hi).c0, (hc _).trans (h4 i hi).c1, (hc _).trans (h4 i hi).c2, (hc _).trans (h4 i hi).c3, (hc _).trans (h4 i hi).c4⟩, fun o => (World.frozen?_of_block hb).trans (h5 o)⟩

theorem ConKept.kept {S' : Nat → Prop} {w w' : World} {S : Value} {ks : List Nat} {vs ts : Nat → Int} {g : Nat} (h : ConKept w S ks vs ts g) (hk : Kp S' w w') (hg : ¬ S' g) (hlt : ks = [] ∨ g < w.heap.size) : ConKept w' S ks vs ts g := by
  rcases h with h | ⟨cap, h1, h2⟩
  · exact .inl h
  · refine .inr ⟨cap, h1, fun q x hq => ?_⟩
    rcases hlt with rfl | hlt
    · simp at hq
    have hc : ∀ o, w'.cell? ⟨g, o, none⟩ = w.cell? ⟨g, o, none⟩ := fun o => World.cell?_of_block (hk.block g hlt hg)
    exact ⟨(hc _).trans (h2 q x hq).c0, (hc _).trans (h2 q x hq).c1, (hc _).trans (h2 q x hq).c2, (hc _).trans (h2 q x hq).c3, (hc _).trans (h2 q x hq).c4⟩

/-- Behind 'merge': the node itself was named. -/
def EndSelf (w : World) (B H N : Nat) (a0 a1 a2 a3 xk xa : ByteArray) (id : Int) (len : Nat) (z : List Int) (wx : World) : Prop :=
  ∃ (c : Nat → Value) (g : Nat) (S : Value), peq xk xa a0 a1 = true ∧ Lp w B a0 a1 a2 a3 xk xa wx ∧ Blk wx H 3 hostNone ∧ Blk wx N 258 c ∧ c 11 = .pointer none ∧ c 12 = .int .u64 0 ∧ c 19 = S ∧ c 21 = .slice (some ⟨N, 66, none⟩) 1 18 ∧ c 66 = .string a2 ∧ c 67 = .string a3 ∧
    ConKept wx S (kept (fun i => z.getD i 0) id len) (fun i => z.getD i 0) (fun i => (i : Int)) g ∧ (kept (fun i => z.getD i 0) id len = [] ∨ g < wx.heap.size) ∧ H < wx.heap.size ∧ N < wx.heap.size

/-- Behind 'merge': the peer was linked, and told. -/
def EndOwn (w : World) (B H N : Nat) (a0 a1 a2 a3 xk xa key : ByteArray) (id hops r : Int) (len : Nat) (z : List Int) (wx : World) : Prop :=
  ∃ (c : Nat → Value) (g0 : Nat) (S : Value) (L lg lcap g cap g2 cap2 : Nat), peq xk xa a0 a1 = false ∧ arc a0 xk a2 = true ∧ Lp w B a0 a1 a2 a3 xk xa wx ∧ Blk wx H 3 (hostC g cap g2 cap2 0) ∧ Blk wx g 2 (peerC xk xa) ∧ Blk wx g2 23 (msgC a0 a1 xk xa id key hops) ∧ Blk wx N 258 c ∧
    c 5 = .bool true ∧ c 11 = .pointer (some ⟨L, 0, none⟩) ∧ c 12 = .int .u64 1 ∧ c 19 = S ∧ c 21 = .slice (some ⟨N, 66, none⟩) 1 18 ∧ c 43 = .string ⟨#[]⟩ ∧ c 44 = .string ⟨#[]⟩ ∧ c 57 = .int .i64 (minI 2 r) ∧ c 66 = .string xk ∧ c 67 = .string xa ∧ Blk wx L 2 (listsC lg lcap) ∧ Blk wx lg 2 (peerC xk xa) ∧
    ConRow wx S len (fun i => z.getD i 0) (fun i => (i : Int)) g0

/-- Behind 'merge': the message went on to the successor. -/
def EndFar (w : World) (B H N : Nat) (a0 a1 a2 a3 xk xa key : ByteArray) (id hops : Int) (len : Nat) (z : List Int) (wx : World) : Prop :=
  ∃ (c : Nat → Value) (g0 : Nat) (S : Value) (g cap g2 cap2 : Nat), peq xk xa a0 a1 = false ∧ arc a0 xk a2 = false ∧ Lp w B a0 a1 a2 a3 xk xa wx ∧ Blk wx H 3 (hostC g cap g2 cap2 0) ∧ Blk wx g 2 (peerC a2 a3) ∧ Blk wx g2 23 (msgC a0 a1 xk xa id key hops) ∧ Blk wx N 258 c ∧
    c 5 = .bool false ∧ c 11 = .pointer none ∧ c 12 = .int .u64 0 ∧ c 19 = S ∧ c 21 = .slice (some ⟨N, 66, none⟩) 1 18 ∧ c 66 = .string a2 ∧ c 67 = .string a3 ∧
    ConRow wx S len (fun i => z.getD i 0) (fun i => (i : Int)) g0
end Go.Proofs.Ybulkbpca
