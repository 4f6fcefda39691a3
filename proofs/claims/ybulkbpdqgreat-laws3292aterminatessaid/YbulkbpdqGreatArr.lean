import Derived.Test.YbulkbpdqGreatSmall
import Derived.Test.YbulkbpdqGreatSettle
namespace Go.Proofs.YbulkbpdqGreat
open Go.ChangeShapes Go.WideShapes Go.ChangeAt Go.RowKit
set_option linter.unusedVariables false

def isRegion (n : Nat) : Code → Bool
  | .region i _ _ => i == n
  | _ => false
/-- What follows region n in the sequence in which it stands. -/
def afterRegion (n : Nat) : Code → Option Code
  | .seq a b => if isRegion n a then some b else match afterRegion n a with
    | some c => some c
    | none => afterRegion n b
  | .scope c => afterRegion n c
  | .block _ c => afterRegion n c
  | .loop c => afterRegion n c
  | .cond _ a b => match afterRegion n a with
    | some c => some c
    | none => afterRegion n b
  | _ => none

/-- Does region n stand in it? -/
def hasRegion (n : Nat) : Code → Bool
  | .region i _ _ => i == n
  | .seq a b => hasRegion n a || hasRegion n b
  | .scope c => hasRegion n c
  | .block _ c => hasRegion n c
  | .loop c => hasRegion n c
  | .cond _ a b => hasRegion n a || hasRegion n b
  | _ => false
/-- What follows the statement in which region n stands. -/
def behind (n : Nat) : Code → Option Code
  | .seq a b => if hasRegion n a then some b else behind n b
  | .scope c => behind n c
  | .block _ c => behind n c
  | _ => none

def srcZ (E : Env) (i : Nat) : Int := match E.src i with
  | some j => (j : Int)
  | none => -1

/-- The law's own arrays. -/
structure Arr (E : Env) (og : Nat → ByteArray) (nb TS OG SR IS : Nat) (w : World) : Prop where
  qn : Blk w nb 1 (fun _ => .int .i64 E.n)
  qt : Blk w TS E.n (fun i => ptr (E.ad (.tx i)))
  qo : Blk w OG E.n (fun i => .string (og i))
  qs : Blk w SR E.n (fun i => .int .i64 (srcZ E i))
  qi : Blk w IS E.n (fun i => ptr (E.ad (.im i)))
  lt : nb < w.heap.size ∧ TS < w.heap.size ∧ OG < w.heap.size ∧ SR < w.heap.size ∧ IS < w.heap.size

theorem Arr.kept {E : Env} {og : Nat → ByteArray} {nb TS OG SR IS : Nat} {w w' : World} {P : Nat → Prop} (h : Arr E og nb TS OG SR IS w) (hK : Kp P w w') (hP : ¬ P nb ∧ ¬ P TS ∧ ¬ P OG ∧ ¬ P SR ∧ ¬ P IS) : Arr E og nb TS OG SR IS w' := by
  obtain ⟨l1, l2, l3, l4, l5⟩ := h.lt
  obtain ⟨p1, p2, p3, p4, p5⟩ := hP
  have := hK.size
  exact ⟨h.qn.kept hK l1 p1, h.qt.kept hK l2 p2, h.qo.kept hK l3 p3, h.qs.kept hK l4 p4, h.qi.kept hK l5 p5, by omega, by omega, by omega, by omega, by omega⟩
theorem Arr.below {E : Env} {og : Nat → ByteArray} {nb TS OG SR IS : Nat} {w w' : World} (h : Arr E og nb TS OG SR IS w) (hb : Below w.heap.size w w') : Arr E og nb TS OG SR IS w' := h.kept (P := fun _ => False) (Kp.of_below hb) ⟨fun h => h, fun h => h, fun h => h, fun h => h, fun h => h⟩

/-- Somebody that stands reads item k, among the first r. -/
def live (E : Env) (s : Sta) (k r : Nat) : Bool := (List.range r).any fun i => decide (E.src i = some k) && s.ow i
theorem live_succ (E : Env) (s : Sta) (k r : Nat) : live E s k (r + 1) = (live E s k r || (decide (E.src r = some k) && s.ow r)) := by
  simp [live, List.range_succ]
theorem live_bare {E : Env} {og : Nat → ByteArray} {s : Sta} (hS : Shape E og s) (k : Nat) : live E s k E.n = !bare E s k := by
  unfold live bare
  rw [List.any_eq_not_all_not]
  congr 1
  rw [Bool.eq_iff_iff, List.all_eq_true, List.all_eq_true]
  constructor
  · intro h r hr
    have h1 := h r hr
    have hrn := List.mem_range.1 hr
    by_cases e : E.src r = some k
    · simp [e] at h1
      rw [hS.rl r hrn, h1]; simp
    · simp [e]
  · intro h r hr
    have h1 := h r hr
    have hrn := List.mem_range.1 hr
    by_cases e : E.src r = some k
    · simp [e] at h1
      rw [hS.rl r hrn, e] at h1
      simp [e]
      cases ho : s.ow r with
      | false => rfl
      | true => rw [ho] at h1; simp at h1
    · simp [e]

theorem vlook {E : Env} {s : Sta} {w : World} (h : St E s w) {k : Nat} (hk : k < E.n) (w' : World) (hB : Below w.heap.size w w') : Sem.run Ybaz.prog (Instr.lookup 63 (.map (some (E.ad .mv))) (.string (E.nm k)) true) w' = .ok (.tuple #[.int .u64 0, .bool (s.ve k)]) w' := by
  obtain ⟨F, hM, hF, _⟩ : ∃ F, MapF Value.string w (E.ad .mv) F ∧ VeF E s F := h.loc .mv trivial
  have := (hM.block (hB.block _ hM.lt)).lookup strKey Ybaz.underlying63 zero36 (E.nm k) true trivial (fun _ _ => trivial)
  rw [hF k hk] at this
  cases hv : s.ve k <;> rw [hv] at this <;> exact this
theorem ilook {E : Env} {s : Sta} {w : World} (h : St E s w) {k : Nat} (hk : k < E.n) (w' : World) (hB : Below w.heap.size w w') : Sem.run Ybaz.prog (Instr.lookup 62 (.map (some (E.ad .mi))) (.string (E.nm k)) false) w' = .ok (opt (s.it k) (E.ad (.im k))) w' := by
  obtain ⟨F, hM, hF⟩ : ∃ F, MapF Value.string w (E.ad .mi) F ∧ ItF E s F := h.loc .mi trivial
  have := (hM.block (hB.block _ hM.lt)).lookup strKey Ybaz.underlying62 zero52 (E.nm k) false trivial (fun _ _ => trivial)
  rw [hF k hk] at this
  cases hv : s.it k <;> rw [hv] at this <;> exact this
theorem rlook {E : Env} {s : Sta} {w : World} (h : St E s w) {k j : Nat} (hk : k < E.n) (hj : j < E.n) (hs : E.src k = some j) : Sem.run Ybaz.prog (Instr.lookup 54 (.map (some (E.ad (.mr j)))) (.pointer (some ⟨E.ad (.tx k), 0, none⟩)) true) w = .ok (.tuple #[((s.rl k).map rlv).getD (.string ⟨#[]⟩), .bool (s.rl k).isSome]) w := by
  obtain ⟨F, hM, hF⟩ : ∃ F, MapF ptr w (E.ad (.mr j)) F ∧ RdF E s j F := h.loc (.mr j) hj
  have := hM.lookup ptrKey Ybaz.underlying54 zero80 (E.ad (.tx k)) true (h.loc (.tx k) hk).2 (h.goodKeys hF)
  rw [hF.1 k hk, if_pos hs] at this
  cases hv : s.rl k <;> rw [hv] at this <;> exact this

theorem Ybaz.info51 : ∃ i, Ybaz.prog.info? 51 = some i ∧ i.size = 19 := by
  have h : (Ybaz.prog.info? 51).map (·.size) = some 19 := by kernel_rfl
  cases hi : Ybaz.prog.info? 51 with
  | none => rw [hi] at h; cases h
  | some i => rw [hi] at h; exact ⟨i, rfl, by simpa using h⟩
theorem Ybaz.info56 : ∃ i, Ybaz.prog.info? 56 = some i ∧ i.size = 3 := by
  have h : (Ybaz.prog.info? 56).map (·.size) = some 3 := by kernel_rfl
  cases hi : Ybaz.prog.info? 56 with
  | none => rw [hi] at h; cases h
  | some i => rw [hi] at h; exact ⟨i, rfl, by simpa using h⟩
theorem neq_tx (a : Addr) (w : World) : Sem.run Ybaz.prog (binOp .neq 34 (.pointer (some a)) (.pointer (some a))) w = .ok (.bool false) w := by
  obtain ⟨j, hj, _⟩ := Ybaz.info51
  have h : ∀ d : Nat, (Op.equalIn (d + 1) 34 (.pointer (some a)) (.pointer (some a))).run Ybaz.prog w = .ok true w := fun d => by
    simp [Op.equalIn, run_underlying Ybaz.underlying34, sizeOf, typeInfo, hj, run_sameAddr_same]
  simp only [binOp]
  simp [Op.equal, Op.maxDepth, h 9999]
theorem eql_im (a : Addr) (w : World) : Sem.run Ybaz.prog (binOp .eql 52 (.pointer (some a)) (.pointer (some a))) w = .ok (.bool true) w := by
  obtain ⟨j, hj, _⟩ := Ybaz.info56
  have h : ∀ d : Nat, (Op.equalIn (d + 1) 52 (.pointer (some a)) (.pointer (some a))).run Ybaz.prog w = .ok true w := fun d => by
    simp [Op.equalIn, run_underlying Ybaz.underlying52, sizeOf, typeInfo, hj, run_sameAddr_same]
  simp only [binOp]
  simp [Op.equal, Op.maxDepth, h 9999]
theorem eql_im_nil (a : Addr) (w : World) : Sem.run Ybaz.prog (binOp .eql 52 (.pointer none) (.pointer (some a))) w = .ok (.bool false) w := by
  have h : ∀ d : Nat, (Op.equalIn (d + 1) 52 (.pointer none) (.pointer (some a))).run Ybaz.prog w = .ok false w := fun d => by
    simp [Op.equalIn, run_underlying Ybaz.underlying52]
  simp only [binOp]
  simp [Op.equal, Op.maxDepth, h 9999]
attribute [go_sem] neq_tx eql_im eql_im_nil

theorem nodup_map_on {α β : Type} (f : α → β) : ∀ {l : List α}, l.Nodup → (∀ a ∈ l, ∀ b ∈ l, f a = f b → a = b) → (l.map f).Nodup
  | [], _, _ => by simp
  | a :: l, h, hf => by
    obtain ⟨h1, h2⟩ := List.nodup_cons.1 h
    rw [List.map_cons, List.nodup_cons]
    refine ⟨fun hm => ?_, nodup_map_on f h2 (fun x hx y hy => hf x (List.mem_cons_of_mem _ hx) y (List.mem_cons_of_mem _ hy))⟩
    obtain ⟨b, hb, e⟩ := List.mem_map.1 hm
    have := hf b (List.mem_cons_of_mem _ hb) a (by simp) e
    subst this
    exact h1 hb
end Go.Proofs.YbulkbpdqGreat
