import Derived.Test.YbulkbpcaGreatTickE
import Derived.BigRegion
namespace Go.Proofs.YbulkbpcaGreat
open Go.ChangeShapes Go.WideShapes Go.ChangeAt Go.RowKit
set_option linter.unusedVariables false

/-- The law's text behind a region. -/
def isRegion (n : Nat) : Code → Bool
  | .region k _ _ => k == n
  | _ => false
def afterRegion (n : Nat) : Code → Option Code
  | .seq a b => if isRegion n a then some b else match afterRegion n a with
    | some c => some c
    | none => afterRegion n b
  | .scope c => afterRegion n c
  | .block _ c => afterRegion n c
  | .loop c => afterRegion n c
  | .cond _ a b => match afterRegion n a with
    | some c => some c
    | none => afterRegion n b
  | _ => none

theorem cell_lt {w : World} {a : Addr} {v : Value} (h : w.cell? a = some v) : a.block < w.heap.size := by
  by_cases hb : a.block < w.heap.size
  · exact hb
  · rw [World.cell?, Array.getElem?_eq_none (by omega)] at h
    cases h

def two (x y : Value) : Nat → Value := fun j => if j = 0 then x else y
def four (x y z u : Value) : Nat → Value := fun j => if j = 0 then x else if j = 1 then y else if j = 2 then z else u

/-- What is sent, one cell each. -/
def SOne (k a : ByteArray) (c : Nat → Value) : Prop := (sA k a c).all (·.oneCell') = true

def loadSentAt (x : Value) : Sem Value := Instr.loadAt 76 x
theorem load_sent0 (x : Value) : Instr.loadAt 76 x = loadSentAt x := rfl
def storeSentAt (x v : Value) : Sem Unit := Instr.storeAt 76 x v
theorem store_sent0 (x v : Value) : Instr.storeAt 76 x v = storeSentAt x v := rfl

theorem load_sent (a : Addr) (w : World) (h : (rowL w a 25).isSome = true) : Sem.run Ybaz.prog (loadSentAt (.pointer (some a))) w = .ok (.agg ((rowL w a 25).getD []).toArray) w := by
  obtain ⟨cs, hcs⟩ := Option.isSome_iff_exists.1 h
  obtain ⟨hl, hc⟩ := rowL_get hcs
  rw [hcs]
  simp only [loadSentAt, Instr.loadAt, Instr.sureAddr, loadVar, Sem.run_bind, Sem.run_pure, Result.andThen_ok, Ybaz.isAgg76, Ybaz.sizeOf76, if_true, Option.getD_some]
  have := run_loadCells_list (P := Ybaz.prog) w a cs hc
  rw [hl] at this
  rw [this]
  simp

theorem sent_cells (k a : ByteArray) (c : Nat → Value) : (sL k a c).toArray = sA k a c := rfl

theorem store_sent (w : World) (g : Nat) (hg : w.heap.size = g) (cs : Array Value) (hs : cs.size = 25) (k a : ByteArray) (c : Nat → Value) (h1 : SOne k a c) :
    Sem.run Ybaz.prog (storeSentAt (.pointer (some ⟨g, 0, none⟩)) (.agg (sA k a c))) (w.alloc (.cells cs 76)) = .ok () (w.alloc (.cells (sA k a c) 76)) := by
  subst hg
  exact run_storeAt_new w 76 cs (sA k a c) (by kernel_rfl) hs h1

theorem rowL_alloc2 (w : World) (o o' : Obj) (a : Addr) (n : Nat) (h : a.block < w.heap.size) : rowL ((w.alloc o).alloc o') a n = rowL w a n := by
  rw [rowL_alloc _ _ _ _ (by simp; omega), rowL_alloc _ _ _ _ h]

theorem sent_there (w : World) (cs : Array Value) (hs : cs.size = 25) : Blk (w.alloc (.cells cs 76)) w.heap.size 25 (fun j => cs.getD j undef) := by
  have := Blk.fresh w cs 76
  rwa [hs] at this

theorem setCells_past (o : Obj) (g : Nat) : ∀ (vs : List Value) (i : Nat) (w : World), g < w.heap.size → (w.alloc o).setCells g i vs = (w.setCells g i vs).alloc o
  | [], _, _, _ => rfl
  | v :: r, i, w, h => by
    rw [World.setCells, World.setCells, World.setCell_alloc_past _ _ _ _ h, setCells_past o g r (i + 1) _ (by simpa using h)]

theorem store76_2 (w : World) (cs cs' : Array Value) (hs : cs.size = 25) (hs' : cs'.size = 25) (o : Obj) (h1 : cs'.all (·.oneCell') = true) :
    Sem.run Ybaz.prog (Instr.storeAt 76 (.pointer (some ⟨w.heap.size, 0, none⟩)) (.agg cs')) ((w.alloc (.cells cs 76)).alloc o) = .ok () ((w.alloc (.cells cs' 76)).alloc o) := by
  have hb := sent_there w cs hs
  have hi : (Ybaz.prog.info? 76).map (·.size) = some cs'.size := by rw [hs']; kernel_rfl
  have e1 := run_storeAt_mid (P := Ybaz.prog) (w.alloc (.cells cs 76)) w.heap.size 0 76 cs' (fun j hj => ⟨by rw [Nat.zero_add, hb.1 j (by omega)]; rfl, by rw [Nat.zero_add]; exact hb.2 j⟩) hi h1
  have e2 := run_storeAt_new (P := Ybaz.prog) w 76 cs cs' hi (by omega) h1
  have e4 : (w.alloc (.cells cs 76)).setCells w.heap.size 0 cs'.toList = w.alloc (.cells cs' 76) := by
    have := e1.symm.trans e2
    injection this
  have hb2 := hb.alloc (by simp) o
  have e3 := run_storeAt_mid (P := Ybaz.prog) ((w.alloc (.cells cs 76)).alloc o) w.heap.size 0 76 cs' (fun j hj => ⟨by rw [Nat.zero_add, hb2.1 j (by omega)]; rfl, by rw [Nat.zero_add]; exact hb2.2 j⟩) hi h1
  rw [setCells_past _ _ _ _ _ (by simp), e4] at e3
  exact e3

theorem store_sent2 (w : World) (g : Nat) (hg : w.heap.size = g) (cs : Array Value) (hs : cs.size = 25) (o : Obj) (k a : ByteArray) (c : Nat → Value) (h1 : SOne k a c) :
    Sem.run Ybaz.prog (storeSentAt (.pointer (some ⟨g, 0, none⟩)) (.agg (sA k a c))) ((w.alloc (.cells cs 76)).alloc o) = .ok () ((w.alloc (.cells (sA k a c) 76)).alloc o) := by
  subst hg
  exact store76_2 w cs (sA k a c) hs rfl o h1

theorem store_sent2D (w : World) (g : Nat) (hg : w.heap.size = g) (cs : Array Value) (hs : cs.size = 25) (o : Obj) (k a : ByteArray) (c : Nat → Value) (h1 : SOne k a c) :
    Sem.run Ybaz.prog (storeSentAt (.pointer (some ⟨g, 0, none⟩)) (.agg (sA k a c))) ((w.alloc (.cells cs 76)).alloc o).drew = .ok () ((w.alloc (.cells (sA k a c) 76)).alloc o).drew :=
  store_sent2 w.drew g hg cs hs o k a c h1

theorem store_sentD (w : World) (g : Nat) (hg : w.heap.size = g) (cs : Array Value) (hs : cs.size = 25) (k a : ByteArray) (c : Nat → Value) (h1 : SOne k a c) :
    Sem.run Ybaz.prog (storeSentAt (.pointer (some ⟨g, 0, none⟩)) (.agg (sA k a c))) (w.alloc (.cells cs 76)).drew = .ok () (w.alloc (.cells (sA k a c) 76)).drew :=
  store_sent w.drew g hg cs hs k a c h1

/-- What was sent, as a function of the offset. -/
def sF (k a : ByteArray) (c : Nat → Value) : Nat → Value := fun j => if j = 0 then .string k else if j = 1 then .string a else c (j - 2)
theorem sF_fresh (w : World) (k a : ByteArray) (c : Nat → Value) (t : TypeId) : Blk (w.alloc (.cells (sA k a c) t)) w.heap.size 25 (sF k a c) :=
  (Blk.fresh w (sA k a c) t).congr fun j hj => by
    rcases (show j = 0 ∨ j = 1 ∨ j = 2 ∨ j = 3 ∨ j = 4 ∨ j = 5 ∨ j = 6 ∨ j = 7 ∨ j = 8 ∨ j = 9 ∨ j = 10 ∨ j = 11 ∨ j = 12 ∨ j = 13 ∨ j = 14 ∨ j = 15 ∨ j = 16 ∨ j = 17 ∨ j = 18 ∨ j = 19 ∨ j = 20 ∨ j = 21 ∨ j = 22 ∨ j = 23 ∨ j = 24 from by simp [sA, sL] at hj; omega) with rfl | rfl | rfl | rfl | rfl | rfl | rfl | rfl | rfl | rfl | rfl | rfl | rfl | rfl | rfl | rfl | rfl | rfl | rfl | rfl | rfl | rfl | rfl | rfl | rfl <;> rfl

theorem flat_at {ls : List (List Value)} (h : ∀ x ∈ ls, x.length = 25) : ∀ (k : Nat) (x : List Value), ls[k]? = some x → ∀ j, j < 25 → ls.flatten[k * 25 + j]? = x[j]? := by
  induction ls with
  | nil => intro k x hx; simp at hx
  | cons y r ih =>
    intro k x hx j hj
    have hy := h y (by simp)
    cases k with
    | zero =>
      simp at hx; subst hx
      rw [List.flatten_cons, List.getElem?_append_left (by omega)]; simp
    | succ k =>
      simp at hx
      rw [List.flatten_cons, List.getElem?_append_right (by omega), ← ih (fun x hx => h x (by simp [hx])) k x hx j hj]
      congr 1; rw [hy]; omega

/-- One of what was sent: a question. -/
def IsAsk (x : List Value) : Prop := ∃ tk ta uk ua pk pa nk na mk d k, x = sL tk ta (upd (upd (askC d pk pa nk na mk k) 4 (.string uk)) 5 (.string ua))

theorem IsAsk.len {x : List Value} (h : IsAsk x) : x.length = 25 := by
  obtain ⟨tk, ta, uk, ua, pk, pa, nk, na, mk, d, k, rfl⟩ := h
  rfl

/-- The k-th of a row of what was sent. -/
theorem row_at {w : World} {base : Nat} {V : Value} {ls : List (List Value)} (h : w.ownsRow base 76 25 V ls.length ls.flatten) (hx : ∀ x ∈ ls, IsAsk x) (hn : 0 < ls.length) :
    ∃ g cap, V = .slice (some ⟨g, 0, none⟩) ls.length cap ∧ g < w.heap.size ∧ ∀ k x, ls[k]? = some x → rowL w ⟨g, k * 25, none⟩ 25 = some x := by
  obtain ⟨g, cap, rfl⟩ : ∃ g cap, V = .slice (some ⟨g, 0, none⟩) ls.length cap := by
    rcases h.2 with ⟨rfl, h0⟩ | ⟨g, cap, cur, rfl, _⟩
    · omega
    · exact ⟨g, cap, rfl⟩
  refine ⟨g, cap, rfl, (h.lt g rfl).2, fun k x hk => ?_⟩
  have hkl : k < ls.length := (List.getElem?_eq_some_iff.1 hk).1
  have hxl : x.length = 25 := (hx x (List.mem_of_getElem? hk)).len
  have := rowL_some (w := w) (a := ⟨g, k * 25, none⟩) (cs := x) (fun j v hv => by
    have hj : j < 25 := by have := (List.getElem?_eq_some_iff.1 hv).1; omega
    have hadd : (⟨g, k * 25, none⟩ : Addr).add j = ⟨g, k * 25 + j, none⟩ := by unfold Addr.add; split <;> simp_all
    rw [hadd, h.cellAt (k * 25 + j) (by omega), flat_at (fun x hx' => (hx x hx').len) k x hk j hj]
    exact hv)
  rwa [hxl] at this

/-- Behind the tick: what the law then reads. -/
structure EndSt (w : World) (H N Ww Wa Wu Wt : Nat) (f b : Tb) (V : Value) (ls : List (List Value)) (os : List Value) (wc : World) : Prop where
  n : ∃ c, Blk wc N 258 c ∧ c 14 = .int .i64 1 ∧ f.At c 21 ∧ b.At c 32
  ww : Blk wc Ww 2 (two (.int .i64 f.k) (.int .i64 b.k))
  wa : Blk wc Wa 4 (four (.string f.qk) (.string f.qa) (.string b.qk) (.string b.qa))
  wu : Blk wc Wu 2 (two (.int .i64 f.u) (.int .i64 b.u))
  wt : Blk wc Wt 2 (two (.int .u64 f.t) (.int .u64 b.t))
  h : ∃ G g cap, HostSt wc H G (.slice (some ⟨g, 0, none⟩) 1 cap) ls (os ++ [.int .u8 87]) ∧ wc.cell? ⟨g, 0, none⟩ = some (.int .i64 1000000000)
  v : ∃ base, wc.ownsRow base 76 25 V ls.length ls.flatten
  hl : ls.length ≤ 2
  ho : os.length ≤ 2
  ask : ∀ x ∈ ls, IsAsk x
  low : Below w.heap.size w wc
end Go.Proofs.YbulkbpcaGreat
