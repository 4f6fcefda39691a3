import Derived.Test.YbulkbpdqGreatCand
import Derived.Test.YbulkbpdqGreatAdapt3
namespace Go.Proofs.YbulkbpdqGreat
open Go.ChangeShapes Go.WideShapes Go.ChangeAt Go.RowKit
set_option linter.unusedVariables false

/-- The blocks that the law lays. -/
inductive Loc where
  | sch | mi | mv
  | tx (k : Nat) | im (k : Nat) | mr (k : Nat) | rs (k : Nat) | ws (k : Nat)

/-- What stays. -/
structure Env where
  n : Nat
  B : Nat
  ad : Loc → Nat
  src : Nat → Option Nat
  age : Nat → Int
  nm : Nat → ByteArray
  st : ByteArray

def Env.ok (E : Env) : Loc → Prop
  | .sch | .mi | .mv => True
  | .tx k | .im k | .mr k | .ws k => k < E.n
  | .rs k => k < E.n ∧ E.src k ≠ none

/-- The blocks that are the law's to turn. -/
def Env.Own (E : Env) (b : Nat) : Prop := E.B ≤ b ∨ ∃ l, E.ok l ∧ b = E.ad l

structure Env.Wf (E : Env) : Prop where
  inj : ∀ l l', E.ok l → E.ok l' → E.ad l = E.ad l' → l = l'
  lt : ∀ l, E.ok l → E.ad l < E.B
  src : ∀ k j, k < E.n → E.src k = some j → j < E.n
  nm : ∀ k j, k < E.n → j < E.n → E.nm k = E.nm j → k = j
  n : E.n ≤ 300

/-- What turns. -/
structure Sta where
  ph : Nat → ByteArray
  rd : Nat → Bool
  wr : Nat → Bool
  cd : Nat → Bool
  ow : Nat → Bool
  rl : Nat → Option Bool
  it : Nat → Bool
  ve : Nat → Bool
  L : List Nat
  c : Nat → Value
  m : Nat

def rlNewB : ByteArray := ⟨#[114, 108, 45, 110, 101, 119]⟩
def rlOldB : ByteArray := ⟨#[114, 108, 45, 111, 108, 100]⟩
def rlv : Bool → Value
  | true => .string rlNewB
  | false => .string rlOldB

def one (b : Bool) (a : Nat) : Value := if b then .slice (some ⟨a, 0, none⟩) 1 1 else .slice none 0 0
def opt (b : Bool) (a : Nat) : Value := if b then ptr a else .pointer none

def txZ : Array Value := #[.int .u64 0, .string ⟨#[]⟩, .int .u32 0, .int .u64 0, .int .u64 0, .bool false, .string ⟨#[]⟩, .int .u64 0, .string ⟨#[]⟩, .pointer none, .bool false, .int .u64 0, .int .u64 0, .int .u64 0, .string ⟨#[]⟩, .slice none 0 0, .slice none 0 0, .bool false, .int .u64 0]
def txC (age : Int) (ph : ByteArray) (rd wr : Value) (cd : Bool) : Nat → Value := fun j => if j = 13 then .int .u64 age else if j = 14 then .string ph else if j = 15 then rd else if j = 16 then wr else if j = 17 then .bool cd else txZ.getD j undef
def imC (nm : ByteArray) (ow : Value) (r : Nat) : Nat → Value := fun j => if j = 0 then .string nm else if j = 1 then ow else .map (some r)

def txOf (E : Env) (s : Sta) (k : Nat) : Nat → Value := txC (E.age k) (s.ph k) (one (s.rd k) (E.ad (.rs k))) (one (s.wr k) (E.ad (.ws k))) (s.cd k)
def imOf (E : Env) (s : Sta) (k : Nat) : Nat → Value := imC (E.nm k) (opt (s.ow k) (E.ad (.tx k))) (E.ad (.mr k))

/-- The readers of item j. -/
def RdF (E : Env) (s : Sta) (j : Nat) (F : Nat → Option Value) : Prop :=
  (∀ k, k < E.n → F (E.ad (.tx k)) = if E.src k = some j then (s.rl k).map rlv else none) ∧ ∀ b, (F b).isSome = true → ∃ k, k < E.n ∧ b = E.ad (.tx k)
def ItF (E : Env) (s : Sta) (F : ByteArray → Option Value) : Prop := ∀ k, k < E.n → F (E.nm k) = if s.it k then some (ptr (E.ad (.im k))) else none
def VeF (E : Env) (s : Sta) (F : ByteArray → Option Value) : Prop := (∀ k, k < E.n → F (E.nm k) = if s.ve k then some (.int .u64 0) else none) ∧ ∀ x, (F x).isSome = true → ∃ k, k < E.n ∧ x = E.nm k

def Holds (E : Env) (s : Sta) (w : World) : Loc → Prop
  | .sch => Blk w (E.ad .sch) 209 s.c
  | .mi => ∃ F, MapF Value.string w (E.ad .mi) F ∧ ItF E s F
  | .mv => ∃ F, MapF Value.string w (E.ad .mv) F ∧ VeF E s F
  | .tx k => Blk w (E.ad (.tx k)) 19 (txOf E s k) ∧ Raw w (E.ad (.tx k))
  | .im k => Blk w (E.ad (.im k)) 3 (imOf E s k)
  | .mr k => ∃ F, MapF ptr w (E.ad (.mr k)) F ∧ RdF E s k F
  | .rs k => ∀ j, E.src k = some j → Blk w (E.ad (.rs k)) 1 (fun _ => ptr (E.ad (.im j)))
  | .ws k => Blk w (E.ad (.ws k)) 1 (fun _ => ptr (E.ad (.im k)))

theorem Holds.block {E : Env} {s : Sta} {w w' : World} {l : Loc} (h : Holds E s w l) (hb : w'.heap[E.ad l]? = w.heap[E.ad l]?) : Holds E s w' l := by
  cases l with
  | sch => exact Blk.block h hb
  | mi => obtain ⟨F, h1, h2⟩ := h; exact ⟨F, h1.block hb, h2⟩
  | mv => obtain ⟨F, h1, h2⟩ := h; exact ⟨F, h1.block hb, h2⟩
  | tx k => exact ⟨Blk.block h.1 hb, h.2.block hb⟩
  | im k => exact Blk.block h hb
  | mr k => obtain ⟨F, h1, h2⟩ := h; exact ⟨F, h1.block hb, h2⟩
  | rs k => exact fun j hj => Blk.block (h j hj) hb
  | ws k => exact Blk.block h hb

structure SchOk (E : Env) (c : Nat → Value) : Prop where
  c2 : c 2 = .string E.st
  c3 : c 3 = .map (some (E.ad .mi))
  c4 : c 4 = .map (some (E.ad .mv))
  c5 : c 5 = .int .i32 0
  c7 : c 7 = .slice none 0 0
  c208 : c 208 = .pointer none

structure St (E : Env) (s : Sta) (w : World) : Prop where
  loc : ∀ l, E.ok l → Holds E s w l
  sch : SchOk E s.c
  hp : w.ownsRow E.B 34 1 (s.c 206) s.L.length (s.L.map fun k => ptr (E.ad (.tx k)))
  mo : ∃ ms, w.ownsRow E.B 187 5 (s.c 11) s.m ms
  sep : ∀ b, (s.c 206).ownBlock = some b → (s.c 11).ownBlock = some b → False
  ix : ∀ k ∈ s.L, k < E.n
  sz : E.B ≤ w.heap.size

theorem owns_kept {P : Nat → Prop} {w w' : World} {base : Nat} {e : TypeId} {sz n : Nat} {V : Value} {xs : List Value} (h : w.ownsRow base e sz V n xs) (hk : Kp P w w') (hs : ∀ b, V.ownBlock = some b → ¬ P b) : w'.ownsRow base e sz V n xs := by
  refine ⟨h.1, ?_⟩
  rcases h.2 with h0 | ⟨g, cap, cur, h1, h2, h3, h4⟩
  · exact .inl h0
  · exact .inr ⟨g, cap, cur, h1, h2, (hk.block g (Array.getElem?_eq_some_iff.1 h3).1 (hs g (by rw [h1]; rfl))).trans h3, h4⟩

theorem St.lt {E : Env} (W : E.Wf) {s : Sta} {w : World} (h : St E s w) {l : Loc} (hl : E.ok l) : E.ad l < w.heap.size := Nat.lt_of_lt_of_le (W.lt l hl) h.sz

/-- The blocks, behind a step that turns those of X. -/
theorem St.locs {E : Env} (W : E.Wf) {s s' : Sta} {w w' : World} (h : St E s w) {P : Nat → Prop} (hK : Kp P w w') (X : Loc → Prop) (hX : ∀ l, E.ok l → P (E.ad l) → X l)
    (hs : ∀ l, E.ok l → ¬ X l → Holds E s w' l → Holds E s' w' l) (hn : ∀ l, E.ok l → X l → Holds E s' w' l) : ∀ l, E.ok l → Holds E s' w' l := fun l hl => by
  by_cases hx : X l
  · exact hn l hl hx
  · exact hs l hl hx ((h.loc l hl).block (hK.block _ (h.lt W hl) fun hp => hx (hX l hl hp)))

def bare (E : Env) (s : Sta) (k : Nat) : Bool := (List.range E.n).all fun r => decide (E.src r ≠ some k) || (s.rl r).isNone
def setB (f : Nat → Bool) (k : Nat) (b : Bool) : Nat → Bool := fun j => if j = k then b else f j
def Sta.forget (E : Env) (k : Nat) (s : Sta) : Sta := if !s.ow k && bare E s k then { s with it := setB s.it k false } else s

theorem bare_iff {E : Env} {s : Sta} {k : Nat} {F : Nat → Option Value} (hF : RdF E s k F) : bare E s k = true ↔ ∀ b, F b = none := by
  unfold bare
  rw [List.all_eq_true]
  refine ⟨fun h b => ?_, fun h r hr => ?_⟩
  · cases hb : F b with
    | none => rfl
    | some v =>
      obtain ⟨r, hr, rfl⟩ := hF.2 b (by rw [hb]; rfl)
      rw [hF.1 r hr] at hb
      have := h r (List.mem_range.2 hr)
      split at hb
      · next e =>
        simp [e] at this
        rw [this] at hb; cases hb
      · cases hb
  · have := hF.1 r (List.mem_range.1 hr)
    rw [h] at this
    by_cases e : E.src r = some k
    · rw [if_pos e] at this
      cases hr2 : s.rl r with
      | none => simp
      | some v => rw [hr2] at this; cases this
    · simp [e]
end Go.Proofs.YbulkbpdqGreat
