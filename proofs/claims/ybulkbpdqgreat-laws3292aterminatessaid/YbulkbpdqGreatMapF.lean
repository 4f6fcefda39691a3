import Derived.Test.YbulkbpdqGreatBlk
import Derived.WideKeyEntry
import Derived.RangeFuncRecord
import Derived.Maps.RangeRun
namespace Go.Proofs.YbulkbpdqGreat
open Go.ChangeShapes Go.WideShapes Go.ChangeAt Go.RowKit
set_option linter.unusedVariables false

/-- A pointer to a whole block. -/
def ptr (b : Nat) : Value := .pointer (some ⟨b, 0, none⟩)

/-- A block of cells, none of them frozen. -/
def Raw (w : World) (b : Nat) : Prop := ∃ cs t, w.heap[b]? = some (.cells cs t)
theorem Raw.lt {w : World} {b : Nat} (h : Raw w b) : b < w.heap.size := by obtain ⟨cs, t, h⟩ := h; exact (Array.getElem?_eq_some_iff.1 h).1
theorem Raw.block {w w' : World} {b : Nat} (h : Raw w b) (hb : w'.heap[b]? = w.heap[b]?) : Raw w' b := by obtain ⟨cs, t, h⟩ := h; exact ⟨cs, t, hb.trans h⟩
theorem Raw.setCell {w : World} {b : Nat} (h : Raw w b) (c o : Nat) (v : Value) : Raw (w.setCell ⟨c, o, none⟩ v) b := by
  obtain ⟨cs, t, h⟩ := h
  by_cases hb : b = c
  · subst hb
    refine ⟨cs.setIfInBounds o v, t, ?_⟩
    simp [World.setCell, Array.getElem?_modify, h]
  · exact ⟨cs, t, (Below.heap_setCell _ _ _ _ hb).trans h⟩

/-- What is asked of a map's keys. -/
structure KeyOk {α : Type} (ty : TypeId) (K : α → Value) (G : World → α → Prop) : Prop where
  chk : ∀ (b : Bool) (k : α) (w : World), Sem.run Ybaz.prog (Instr.checkKey b 10000 ty (K k)) w = .ok () w
  bits : ∀ k, Instr.sameBits 10000 (K k) (K k) = true
  miss : ∀ (k : α) (es : List MapEntry) (w : World), G w k → (∀ e ∈ es, ∃ k', e.key = K k' ∧ k' ≠ k ∧ G w k') → Sem.run Ybaz.prog (Instr.findKey ty (K k) es) w = .ok none w
  hit : ∀ (k : α) (es : List MapEntry) (j : Nat) (e : MapEntry) (w : World), G w k → es[j]? = some e → e.key = K k → (∀ i e', i < j → es[i]? = some e' → ∃ k', e'.key = K k' ∧ k' ≠ k ∧ G w k') → Sem.run Ybaz.prog (Instr.findKey ty (K k) es) w = .ok (some (j, e.val)) w

theorem eqPtr (a b : Nat) (w : World) (ha : Raw w a) (hb : Raw w b) : Sem.run Ybaz.prog (Op.equal 34 (ptr a) (ptr b)) w = .ok (a == b) w := by
  have hj : ∃ i, Ybaz.prog.info? 51 = some i ∧ i.size = 19 := by
    have h : (Ybaz.prog.info? 51).map (·.size) = some 19 := by kernel_rfl
    cases hi : Ybaz.prog.info? 51 with
    | none => rw [hi] at h; cases h
    | some i => rw [hi] at h; exact ⟨i, rfl, by simpa using h⟩
  obtain ⟨i, hi, hz⟩ := hj
  obtain ⟨ca, ta, ha⟩ := ha
  obtain ⟨cb, tb, hb⟩ := hb
  unfold ptr
  simp only [Op.equal, Op.maxDepth]
  by_cases h : a = b
  · subst h
    have hh : ∀ d : Nat, (Op.equalIn (d + 1) 34 (.pointer (some ⟨a, 0, none⟩)) (.pointer (some ⟨a, 0, none⟩))).run Ybaz.prog w = .ok true w := fun d => by
      simp [Op.equalIn, run_underlying Ybaz.underlying34, sizeOf, typeInfo, hi, run_sameAddr_same]
    rw [hh 9999]; simp
  · have hne : (⟨a, 0, none⟩ : Addr) ≠ ⟨b, 0, none⟩ := fun e => h (by injection e)
    have hs := run_sameAddr_other (P := Ybaz.prog) w hne ha hb
    have hh : ∀ d : Nat, (Op.equalIn (d + 1) 34 (.pointer (some ⟨a, 0, none⟩)) (.pointer (some ⟨b, 0, none⟩))).run Ybaz.prog w = .ok false w := fun d => by
      simp [Op.equalIn, run_underlying Ybaz.underlying34, sizeOf, typeInfo, hi, hz, hs]
    rw [hh 9999]; simp [h]

theorem askPtr_miss (k : Nat) (w : World) (hk : Raw w k) : ∀ (l : List MapEntry) (i : Nat), (∀ e ∈ l, ∃ k', e.key = ptr k' ∧ k' ≠ k ∧ Raw w k') → Sem.run Ybaz.prog (Instr.findAsking 34 (ptr k) l i) w = .ok none w
  | [], i, _ => by simp [Instr.findAsking]
  | e :: l, i, h => by
    obtain ⟨t', h1, h2, h3⟩ := h e (by simp)
    have hne : (k == t') = false := by simpa using fun h => h2 h.symm
    rw [Instr.findAsking]
    simp only [Sem.run_bind, h1, eqPtr _ _ _ hk h3, Result.andThen_ok, hne]
    exact askPtr_miss k w hk l (i + 1) (fun e he => h e (by simp [he]))

theorem askPtr_hit (k : Nat) (w : World) (hk : Raw w k) (e : MapEntry) (he : e.key = ptr k) : ∀ (l : List MapEntry) (i j : Nat), l[j]? = some e → (∀ i e', i < j → l[i]? = some e' → ∃ k', e'.key = ptr k' ∧ k' ≠ k ∧ Raw w k') → Sem.run Ybaz.prog (Instr.findAsking 34 (ptr k) l i) w = .ok (some (i + j, e.val)) w
  | [], i, j, h, _ => by simp at h
  | x :: l, i, 0, h, _ => by
    simp at h
    subst h
    rw [Instr.findAsking]
    simp [he, eqPtr _ _ _ hk hk]
  | x :: l, i, j + 1, h, hm => by
    obtain ⟨t', h1, h2, h3⟩ := hm 0 x (by omega) (by simp)
    have hne : (k == t') = false := by simpa using fun h => h2 h.symm
    rw [Instr.findAsking]
    simp only [Sem.run_bind, h1, eqPtr _ _ _ hk h3, Result.andThen_ok, hne]
    have := askPtr_hit k w hk e he l (i + 1) j (by simpa using h) (fun i e' hi hl => hm (i + 1) e' (by omega) (by simpa using hl))
    rw [show i + (j + 1) = i + 1 + j from by omega]
    exact this

theorem findPtr (k : Nat) (es : List MapEntry) (w : World) (h : ∀ e, es.head? = some e → ∃ k', e.key = ptr k') : Sem.run Ybaz.prog (Instr.findKey 34 (ptr k) es) w = Sem.run Ybaz.prog (Instr.findAsking 34 (ptr k) es 0) w := by
  cases es with
  | nil => simp [Instr.findKey, run_underlying Ybaz.underlying34, Instr.findNow, Instr.findAsking, Result.andThen]
  | cons e l =>
    obtain ⟨k', h'⟩ := h e rfl
    obtain ⟨ek, ev, eb⟩ := e
    simp only at h'
    subst h'
    simp [Instr.findKey, run_underlying Ybaz.underlying34, Instr.findNow, Instr.sameNow, Result.andThen, ptr]

theorem ptrKey : KeyOk 34 ptr Raw := by
  refine ⟨fun b k w => ?_, fun k => ?_, fun k es w hG h => ?_, fun k es j e w hG h1 h2 h3 => ?_⟩
  · kernel_rfl
  · simp [Instr.sameBits, ptr]
  · rw [findPtr k es w (fun e he => by obtain ⟨k', h', _⟩ := h e (List.mem_of_mem_head? he); exact ⟨k', h'⟩)]
    exact askPtr_miss k w hG es 0 h
  · rw [findPtr k es w (fun e' he => by
      cases j with
      | zero => rw [List.head?_eq_getElem?, h1] at he; cases he; exact ⟨k, h2⟩
      | succ j => obtain ⟨k', h', _⟩ := h3 0 e' (by omega) (by rw [← List.head?_eq_getElem?]; exact he); exact ⟨k', h'⟩)]
    have := askPtr_hit k w hG e h2 es 0 j h1 h3
    simpa using this

theorem bytes_ne {k t : ByteArray} (h : t ≠ k) : (k == t) = false := by
  cases hb : k == t with
  | false => rfl
  | true => exact absurd ((MapKept.bytes_beq k t).1 hb).symm h
theorem bytes_self (k : ByteArray) : (k == k) = true := (MapKept.bytes_beq k k).2 rfl

theorem nowStr_miss (k : ByteArray) : ∀ (l : List MapEntry) (i : Nat), (∀ e ∈ l, ∃ k', e.key = .string k' ∧ k' ≠ k) → Instr.findNow .string (.string k) l i = some none
  | [], i, _ => by simp [Instr.findNow]
  | e :: l, i, h => by
    obtain ⟨t', h1, h2⟩ := h e (by simp)
    have hne : (k == t') = false := bytes_ne h2
    rw [Instr.findNow]
    simp only [h1, Instr.sameNow, hne]
    exact nowStr_miss k l (i + 1) (fun e he => h e (by simp [he]))

theorem nowStr_hit (k : ByteArray) (e : MapEntry) (he : e.key = .string k) : ∀ (l : List MapEntry) (i j : Nat), l[j]? = some e → (∀ i e', i < j → l[i]? = some e' → ∃ k', e'.key = .string k' ∧ k' ≠ k) → Instr.findNow .string (.string k) l i = some (some (i + j, e.val))
  | [], i, j, h, _ => by simp at h
  | x :: l, i, 0, h, _ => by
    simp at h
    subst h
    rw [Instr.findNow]
    simp [he, Instr.sameNow, bytes_self]
  | x :: l, i, j + 1, h, hm => by
    obtain ⟨t', h1, h2⟩ := hm 0 x (by omega) (by simp)
    have hne : (k == t') = false := bytes_ne h2
    rw [Instr.findNow]
    simp only [h1, Instr.sameNow, hne]
    have := nowStr_hit k e he l (i + 1) j (by simpa using h) (fun i e' hi hl => hm (i + 1) e' (by omega) (by simpa using hl))
    rw [show i + (j + 1) = i + 1 + j from by omega]
    exact this

theorem erase_map {β γ : Type} (g : β → γ) : ∀ (L : List β) (j : Nat), (L.eraseIdx j).map g = (L.map g).eraseIdx j
  | [], j => by simp
  | a :: l, 0 => by simp
  | a :: l, j + 1 => by simp [erase_map g l j]

theorem strKey : KeyOk 9 Value.string (fun _ _ => True) := by
  refine ⟨fun b k w => ?_, fun k => ?_, fun k es w _ h => ?_, fun k es j e w _ h1 h2 h3 => ?_⟩
  · kernel_rfl
  · simp [Instr.sameBits, bytes_self]
  · simp [Instr.findKey, run_underlying Ybaz.underlying9, nowStr_miss k es 0 (fun e he => by obtain ⟨k', q1, q2, _⟩ := h e he; exact ⟨k', q1, q2⟩), Result.andThen]
  · have := nowStr_hit k e h2 es 0 j h1 (fun i e' hi hl => by obtain ⟨k', q1, q2, _⟩ := h3 i e' hi hl; exact ⟨k', q1, q2⟩)
    simp [Instr.findKey, run_underlying Ybaz.underlying9, this, Result.andThen]

section
variable {α : Type} {K : α → Value} {ty : TypeId} {G : World → α → Prop}

/-- The entries of a map: key, value, stamp. -/
def ent (K : α → Value) (L : List (α × Value × Nat)) : List MapEntry := L.map fun p => ⟨K p.1, p.2.1, p.2.2⟩
theorem ent_get (L : List (α × Value × Nat)) (i : Nat) : (ent K L)[i]? = (L[i]?).map fun p => ⟨K p.1, p.2.1, p.2.2⟩ := by simp [ent]

/-- Block r is a map that holds f. -/
structure MapR (K : α → Value) (w : World) (r : Nat) (f : α → Option Value) (L : List (α × Value × Nat)) (clock : Nat) : Prop where
  obj : w.heap[r]? = some (.map (ent K L).toArray clock)
  born : ∀ p ∈ L, p.2.2 < clock
  bnd : (L.map (·.2.2)).Nodup
  knd : (L.map (·.1)).Nodup
  f : ∀ k v, f k = some v ↔ ∃ n, (k, v, n) ∈ L
def MapF (K : α → Value) (w : World) (r : Nat) (f : α → Option Value) : Prop := ∃ L clock, MapR K w r f L clock

theorem MapR.lt {w : World} {r : Nat} {f : α → Option Value} {L : List (α × Value × Nat)} {clock : Nat} (h : MapR K w r f L clock) : r < w.heap.size := (Array.getElem?_eq_some_iff.1 h.obj).1
theorem MapR.block {w w' : World} {r : Nat} {f : α → Option Value} {L : List (α × Value × Nat)} {clock : Nat} (h : MapR K w r f L clock) (hb : w'.heap[r]? = w.heap[r]?) : MapR K w' r f L clock := ⟨hb.trans h.obj, h.born, h.bnd, h.knd, h.f⟩
theorem MapF.lt {w : World} {r : Nat} {f : α → Option Value} (h : MapF K w r f) : r < w.heap.size := by obtain ⟨L, c, h⟩ := h; exact h.lt
theorem MapF.block {w w' : World} {r : Nat} {f : α → Option Value} (h : MapF K w r f) (hb : w'.heap[r]? = w.heap[r]?) : MapF K w' r f := by obtain ⟨L, c, h⟩ := h; exact ⟨L, c, h.block hb⟩

theorem nodup_key_inj {L : List (α × Value × Nat)} (h : (L.map (·.1)).Nodup) {i j : Nat} {p q : α × Value × Nat} (hi : L[i]? = some p) (hj : L[j]? = some q) (he : p.1 = q.1) : i = j := by
  have hil := (List.getElem?_eq_some_iff.1 hi).1
  have hjl := (List.getElem?_eq_some_iff.1 hj).1
  refine (List.getElem_inj (h₀ := by simpa using hil) (h₁ := by simpa using hjl) h).1 ?_
  have h1 := (List.getElem?_eq_some_iff.1 hi).2
  have h2 := (List.getElem?_eq_some_iff.1 hj).2
  simp [h1, h2, he]

theorem MapR.good {w w' : World} {r : Nat} {f : α → Option Value} {L : List (α × Value × Nat)} {clock : Nat} (h : MapR K w r f L clock) (hGs : ∀ k', (f k').isSome = true → G w' k') : ∀ p ∈ L, G w' p.1 := fun p hp => hGs p.1 (by rw [(h.f p.1 p.2.1).2 ⟨p.2.2, hp⟩]; rfl)

theorem MapR.find (H : KeyOk ty K G) {w : World} {r : Nat} {f : α → Option Value} {L : List (α × Value × Nat)} {clock : Nat} (h : MapR K w r f L clock) (k : α) (w' : World) (hG : G w' k) (hGs : ∀ p ∈ L, G w' p.1) :
    (f k = none ∧ (∀ p ∈ L, p.1 ≠ k) ∧ Sem.run Ybaz.prog (Instr.findKey ty (K k) (ent K L)) w' = .ok none w') ∨
    ∃ j v n, L[j]? = some (k, v, n) ∧ f k = some v ∧ Sem.run Ybaz.prog (Instr.findKey ty (K k) (ent K L)) w' = .ok (some (j, v)) w' := by
  cases hf : f k with
  | none =>
    left
    have hne : ∀ p ∈ L, p.1 ≠ k := fun p hp e => by
      have : f k = some p.2.1 := (h.f k p.2.1).2 ⟨p.2.2, by rw [← e]; exact hp⟩
      rw [hf] at this; cases this
    refine ⟨rfl, hne, H.miss k _ w' hG fun e he => ?_⟩
    obtain ⟨p, hp, rfl⟩ := List.mem_map.1 he
    exact ⟨p.1, rfl, hne p hp, hGs p hp⟩
  | some v =>
    right
    obtain ⟨n, hn⟩ := (h.f k v).1 hf
    obtain ⟨j, hj⟩ := List.getElem?_of_mem hn
    refine ⟨j, v, n, hj, rfl, ?_⟩
    have he : (ent K L)[j]? = some ⟨K k, v, n⟩ := by rw [ent_get, hj]; rfl
    exact H.hit k _ j _ w' hG he rfl (fun i e' hi hl => by
      rw [ent_get] at hl
      cases hL : L[i]? with
      | none => rw [hL] at hl; cases hl
      | some p =>
        rw [hL] at hl
        simp at hl
        subst hl
        exact ⟨p.1, rfl, (fun e => by have := nodup_key_inj h.knd hL hj e; omega), hGs p (List.mem_of_getElem? hL)⟩)

theorem MapF.lookup (H : KeyOk ty K G) {mt e : TypeId} (hm : Ybaz.prog.underlying mt = some (.map ty e)) {z : Value} (hz : ∀ u : World, (zeroValue e).run Ybaz.prog u = .ok z u) {w : World} {r : Nat} {f : α → Option Value} (h : MapF K w r f) (k : α) (c : Bool) (hG : G w k) (hGs : ∀ k', (f k').isSome = true → G w k') :
    Sem.run Ybaz.prog (Instr.lookup mt (.map (some r)) (K k) c) w = .ok (if c then .tuple #[(f k).getD z, .bool (f k).isSome] else (f k).getD z) w := by
  obtain ⟨L, clock, h⟩ := h
  rcases h.find H k w hG (h.good hGs) with ⟨h1, _, h2⟩ | ⟨j, v, n, h1, h2, h3⟩
  · simp [Instr.lookup, run_underlying hm, MapKept.run_getObj_map h.obj, H.chk, h2, hz, Result.andThen, h1]
  · simp [Instr.lookup, run_underlying hm, MapKept.run_getObj_map h.obj, H.chk, h3, Result.andThen, h2]

theorem MapR.len {mt e : TypeId} (hm : Ybaz.prog.underlying mt = some (.map ty e)) {w : World} {r : Nat} {f : α → Option Value} {L : List (α × Value × Nat)} {clock : Nat} (h : MapR K w r f L clock) (t : TypeId) :
    Sem.run Ybaz.prog (Builtin.len_ #[mt] t #[.map (some r)]) w = .ok (.int .i64 L.length) w := by
  simp [Builtin.len_, run_underlying hm, MapKept.run_getObj_map h.obj, goInt, Result.andThen, ent]

theorem MapR.len_zero {w : World} {r : Nat} {f : α → Option Value} {L : List (α × Value × Nat)} {clock : Nat} (h : MapR K w r f L clock) : L.length = 0 ↔ ∀ k, f k = none := by
  refine ⟨fun h0 k => ?_, fun h0 => ?_⟩
  · have : L = [] := List.length_eq_zero_iff.1 h0
    cases hf : f k with
    | none => rfl
    | some v => obtain ⟨n, hn⟩ := (h.f k v).1 hf; rw [this] at hn; cases hn
  · cases hL : L with
    | nil => rfl
    | cons p l =>
      have := (h.f p.1 p.2.1).2 ⟨p.2.2, by rw [hL]; simp⟩
      rw [h0] at this; cases this

theorem MapR.len_count {w : World} {r : Nat} {f : α → Option Value} {L : List (α × Value × Nat)} {clock : Nat} (h : MapR K w r f L clock) (ks : List α) (hn : ks.Nodup) (hk : ∀ k, (f k).isSome = true ↔ k ∈ ks) : L.length = ks.length := by
  have hp : (L.map (·.1)).Perm ks := by
    refine (List.perm_ext_iff_of_nodup h.knd hn).2 fun k => ?_
    rw [← hk]
    refine ⟨fun hm => ?_, fun hs => ?_⟩
    · obtain ⟨p, hp, rfl⟩ := List.mem_map.1 hm
      rw [(h.f p.1 p.2.1).2 ⟨p.2.2, hp⟩]; rfl
    · obtain ⟨v, hv⟩ := Option.isSome_iff_exists.1 hs
      obtain ⟨n, hn⟩ := (h.f k v).1 hv
      exact List.mem_map.2 ⟨_, hn, rfl⟩
  simpa using hp.length_eq

variable [DecidableEq α]
def updF (f : α → Option Value) (k : α) (v : Option Value) : α → Option Value := fun j => if j = k then v else f j

theorem Kp.putObj {w : World} {r : Nat} (o : Obj) : Kp (fun b => b = r) w (w.putObj r o) :=
  ⟨rfl, rfl, rfl, by simp, fun k _ hk => World.putObj_heap_other hk⟩

theorem MapR.update_hit (H : KeyOk ty K G) {mt e : TypeId} (hm : Ybaz.prog.underlying mt = some (.map ty e)) {w : World} {r : Nat} {f : α → Option Value} {L : List (α × Value × Nat)} {clock : Nat} (h : MapR K w r f L clock) {j : Nat} {k : α} {v0 : Value} {n : Nat} (hj : L[j]? = some (k, v0, n)) (v : Value) (hGs : ∀ k', (f k').isSome = true → G w k') :
    ∃ w', Sem.run Ybaz.prog (Instr.mapUpdate mt (.map (some r)) (K k) v) w = .ok () w' ∧ MapR K w' r (updF f k (some v)) (L.set j (k, v, n)) clock ∧ Kp (fun b => b = r) w w' ∧ w'.heap.size = w.heap.size := by
  have hjl := (List.getElem?_eq_some_iff.1 hj).1
  have hset : ∀ {β : Type} (g : α × Value × Nat → β), g (k, v, n) = g (k, v0, n) → (L.set j (k, v, n)).map g = L.map g := fun g hg => by
    apply List.ext_getElem?
    intro i
    rw [List.getElem?_map, List.getElem?_map, List.getElem?_set]
    by_cases hij : j = i
    · subst hij; simp only [hjl, if_true, hj, Option.map_some, hg]
    · simp [hij]
  refine ⟨w.putObj r (.map (ent K (L.set j (k, v, n))).toArray clock), ?_, ⟨World.putObj_heap_same h.lt, fun p hp => ?_, ?_, ?_, fun k' v' => ?_⟩, Kp.putObj _, by simp⟩
  · have hG : G w k := h.good hGs (k, v0, n) (List.mem_of_getElem? hj)
    rcases h.find H k w hG (h.good hGs) with ⟨_, h1, _⟩ | ⟨j', v', n', h1, h2, h3⟩
    · exact absurd rfl (h1 _ (List.mem_of_getElem? hj))
    · obtain rfl := nodup_key_inj h.knd hj h1 rfl
      have he : (ent K L)[j]? = some ⟨K k, v0, n⟩ := by rw [ent_get, hj]; rfl
      have hmod : (ent K L).modify j (fun e => { e with key := K k, val := v }) = ent K (L.set j (k, v, n)) := by
        apply List.ext_getElem?
        intro i
        rw [List.getElem?_modify, ent_get, ent_get, List.getElem?_set]
        by_cases hij : j = i
        · subst hij; rw [hj]; simp [hjl]
        · simp [hij]
      simp [Instr.mapUpdate, run_underlying hm, MapKept.run_getObj_map h.obj, H.chk, h3, Result.andThen, Instr.keyThatStays, H.bits, he, hmod, MapKept.run_setObj_map _ h.obj, World.putObj]
  · rcases List.mem_or_eq_of_mem_set hp with hp | rfl
    · exact h.born p hp
    · exact h.born (k, v0, n) (List.mem_of_getElem? hj)
  · rw [hset (fun p => p.2.2) rfl]; exact h.bnd
  · rw [hset (fun p => p.1) rfl]; exact h.knd
  · unfold updF
    by_cases hk : k' = k
    · subst hk
      simp only [if_true]
      refine ⟨fun e => ?_, fun ⟨m, hm⟩ => ?_⟩
      · cases e; exact ⟨n, List.mem_of_getElem? (i := j) (by rw [List.getElem?_set_self hjl])⟩
      · obtain ⟨i, hi⟩ := List.getElem?_of_mem hm
        rw [List.getElem?_set] at hi
        by_cases hij : j = i
        · subst hij; simp [hjl] at hi; rw [hi.1]
        · simp [hij] at hi
          exact absurd (nodup_key_inj h.knd hj hi rfl) hij
    · simp only [hk, if_false]
      rw [h.f]
      refine ⟨fun ⟨m, hm⟩ => ?_, fun ⟨m, hm⟩ => ?_⟩
      · obtain ⟨i, hi⟩ := List.getElem?_of_mem hm
        refine ⟨m, List.mem_of_getElem? (i := i) ?_⟩
        rw [List.getElem?_set]
        by_cases hij : j = i
        · subst hij; rw [hj] at hi; cases hi; exact absurd rfl hk
        · simp [hij, hi]
      · obtain ⟨i, hi⟩ := List.getElem?_of_mem hm
        rw [List.getElem?_set] at hi
        by_cases hij : j = i
        · subst hij; simp [hjl] at hi; exact absurd hi.1.symm hk
        · simp [hij] at hi; exact ⟨m, List.mem_of_getElem? hi⟩

theorem MapF.update (H : KeyOk ty K G) {mt e : TypeId} (hm : Ybaz.prog.underlying mt = some (.map ty e)) {w : World} {r : Nat} {f : α → Option Value} (h : MapF K w r f) (k : α) (v : Value) (hG : G w k) (hGs : ∀ k', (f k').isSome = true → G w k') :
    ∃ w', Sem.run Ybaz.prog (Instr.mapUpdate mt (.map (some r)) (K k) v) w = .ok () w' ∧ MapF K w' r (updF f k (some v)) ∧ Kp (fun b => b = r) w w' ∧ w'.heap.size = w.heap.size := by
  obtain ⟨L, clock, h⟩ := h
  rcases h.find H k w hG (h.good hGs) with ⟨h1, h2, h3⟩ | ⟨j, v0, n, h1, _, _⟩
  · refine ⟨w.putObj r (.map (ent K (L ++ [(k, v, clock)])).toArray (clock + 1)), ?_, ⟨L ++ [(k, v, clock)], clock + 1, World.putObj_heap_same h.lt, fun p hp => ?_, ?_, ?_, fun k' v' => ?_⟩, Kp.putObj _, by simp⟩
    · have hent : ent K (L ++ [(k, v, clock)]) = ent K L ++ [⟨K k, v, clock⟩] := by simp [ent]
      simp [Instr.mapUpdate, run_underlying hm, MapKept.run_getObj_map h.obj, H.chk, h3, Result.andThen, MapKept.run_setObj_map _ h.obj, World.putObj, hent]
    · rcases List.mem_append.1 hp with hp | hp
      · have := h.born p hp; omega
      · simp at hp; subst hp; simp
    · rw [List.map_append]
      refine List.nodup_append.2 ⟨h.bnd, by simp, fun a ha b hb => ?_⟩
      obtain ⟨p, hp, rfl⟩ := List.mem_map.1 ha
      simp at hb
      have := h.born p hp
      omega
    · rw [List.map_append]
      refine List.nodup_append.2 ⟨h.knd, by simp, fun a ha b hb => ?_⟩
      obtain ⟨p, hp, rfl⟩ := List.mem_map.1 ha
      simp at hb
      rw [hb]
      exact h2 p hp
    · unfold updF
      by_cases hk : k' = k
      · subst hk
        simp only [if_true]
        refine ⟨fun e => by cases e; exact ⟨clock, by simp⟩, fun ⟨m, hm⟩ => ?_⟩
        rcases List.mem_append.1 hm with hm | hm
        · exact absurd rfl (h2 _ hm)
        · simp at hm; rw [hm.1]
      · simp only [hk, if_false]
        rw [h.f]
        refine ⟨fun ⟨m, hm⟩ => ⟨m, List.mem_append_left _ hm⟩, fun ⟨m, hm⟩ => ?_⟩
        rcases List.mem_append.1 hm with hm | hm
        · exact ⟨m, hm⟩
        · simp at hm; exact absurd hm.1 hk
  · obtain ⟨w', q1, q2, q3, q4⟩ := h.update_hit H hm h1 v hGs
    exact ⟨w', q1, ⟨_, _, q2⟩, q3, q4⟩

theorem MapF.delete (H : KeyOk ty K G) {mt e : TypeId} (hm : Ybaz.prog.underlying mt = some (.map ty e)) {w : World} {r : Nat} {f : α → Option Value} (h : MapF K w r f) (k : α) (hG : G w k) (hGs : ∀ k', (f k').isSome = true → G w k') :
    ∃ w', (∀ t : TypeId, Sem.run Ybaz.prog (Builtin.delete_ #[mt, ty] t #[.map (some r), K k]) w = .ok (.tuple #[]) w') ∧ MapF K w' r (updF f k none) ∧ Kp (fun b => b = r) w w' ∧ w'.heap.size = w.heap.size := by
  obtain ⟨L, clock, h⟩ := h
  rcases h.find H k w hG (h.good hGs) with ⟨h1, h2, h3⟩ | ⟨j, v0, n, h1, h2, h3⟩
  · refine ⟨w.putObj r (.map (ent K L).toArray clock), fun t => ?_, ⟨L, clock, World.putObj_heap_same h.lt, h.born, h.bnd, h.knd, fun k' v' => ?_⟩, Kp.putObj _, by simp⟩
    · simp [Builtin.delete_, run_underlying hm, MapKept.run_getObj_map h.obj, H.chk, h3, Result.andThen, MapKept.run_setObj_map _ h.obj, World.putObj]
    · unfold updF
      by_cases hk : k' = k
      · subst hk
        simp only [if_true]
        exact ⟨fun e => (by cases e), fun ⟨m, hm⟩ => absurd rfl (h2 _ hm)⟩
      · simp only [hk, if_false]
        exact h.f k' v'
  · have hjl := (List.getElem?_eq_some_iff.1 h1).1
    have her : (ent K L).eraseIdx j = ent K (L.eraseIdx j) := (erase_map _ _ _).symm
    have hsz : j < (ent K L).length := by simpa [ent] using hjl
    refine ⟨w.putObj r (.map (ent K (L.eraseIdx j)).toArray clock), fun t => ?_, ⟨L.eraseIdx j, clock, World.putObj_heap_same h.lt, fun p hp => h.born p (List.mem_of_mem_eraseIdx hp), ?_, ?_, fun k' v' => ?_⟩, Kp.putObj _, by simp⟩
    · simp [Builtin.delete_, run_underlying hm, MapKept.run_getObj_map h.obj, H.chk, h3, Result.andThen, MapKept.run_setObj_map _ h.obj, World.putObj, Array.eraseIdxIfInBounds, hsz, her]
    · rw [erase_map]; exact h.bnd.sublist (List.eraseIdx_sublist _ _)
    · rw [erase_map]; exact h.knd.sublist (List.eraseIdx_sublist _ _)
    · unfold updF
      have hmem : ∀ p : α × Value × Nat, p ∈ L.eraseIdx j ↔ ∃ i, i ≠ j ∧ L[i]? = some p := fun p => by rw [List.mem_eraseIdx_iff_getElem?]
      by_cases hk : k' = k
      · subst hk
        simp only [if_true]
        refine ⟨fun e => (by cases e), fun ⟨m, hm⟩ => ?_⟩
        obtain ⟨i, hij, hi⟩ := (hmem _).1 hm
        exact absurd (nodup_key_inj h.knd hi h1 rfl) hij
      · simp only [hk, if_false]
        rw [h.f]
        refine ⟨fun ⟨m, hm⟩ => ?_, fun ⟨m, hm⟩ => ⟨m, List.mem_of_mem_eraseIdx hm⟩⟩
        obtain ⟨i, hi⟩ := List.getElem?_of_mem hm
        refine ⟨m, (hmem _).2 ⟨i, fun e => ?_, hi⟩⟩
        subst e
        rw [h1] at hi; cases hi; exact hk rfl

/-- A range over a map, under way: the stamps seen. -/
structure Iter (K : α → Value) (w : World) (r it : Nat) (f : α → Option Value) (L : List (α × Value × Nat)) (clock : Nat) (seen : Array Nat) : Prop where
  m : MapR K w r f L clock
  i : w.heap[it]? = some (.mapIter (some r) clock seen clock)

omit [DecidableEq α] in
theorem Iter.lt {w : World} {r it : Nat} {f : α → Option Value} {L : List (α × Value × Nat)} {clock : Nat} {seen : Array Nat} (h : Iter K w r it f L clock seen) : it < w.heap.size := (Array.getElem?_eq_some_iff.1 h.i).1
omit [DecidableEq α] in
theorem Iter.ne {w : World} {r it : Nat} {f : α → Option Value} {L : List (α × Value × Nat)} {clock : Nat} {seen : Array Nat} (h : Iter K w r it f L clock seen) : it ≠ r := fun e => by
  have h1 := h.i
  rw [e, h.m.obj] at h1
  cases h1
omit [DecidableEq α] in
theorem Iter.block {w w' : World} {r it : Nat} {f : α → Option Value} {L : List (α × Value × Nat)} {clock : Nat} {seen : Array Nat} (h : Iter K w r it f L clock seen) (h1 : w'.heap[r]? = w.heap[r]?) (h2 : w'.heap[it]? = w.heap[it]?) : Iter K w' r it f L clock seen := ⟨h.m.block h1, h2.trans h.i⟩

/-- How many are left. -/
def restOf (w : World) (r it : Nat) : Nat :=
  match w.heap[r]?, w.heap[it]? with
  | some (.map es _), some (.mapIter _ _ seen _) => (es.toList.filter fun e => !seen.contains e.born).length
  | _, _ => 0
def leftN (L : List (α × Value × Nat)) (seen : Array Nat) : Nat := ((L.map (·.2.2)).filter fun n => !seen.contains n).length
omit [DecidableEq α] in
theorem Iter.rest {w : World} {r it : Nat} {f : α → Option Value} {L : List (α × Value × Nat)} {clock : Nat} {seen : Array Nat} (h : Iter K w r it f L clock seen) : restOf w r it = leftN L seen := by
  unfold restOf leftN
  rw [h.i, h.m.obj]
  simp only [ent]
  rw [List.filter_map, List.filter_map, List.length_map, List.length_map]
  rfl

omit [DecidableEq α] in
theorem leftN_push {L : List (α × Value × Nat)} {seen : Array Nat} {p : α × Value × Nat} (hp : p ∈ L) (hn : p.2.2 ∉ seen) : leftN L (seen.push p.2.2) < leftN L seen := by
  unfold leftN
  have e : ((L.map (·.2.2)).filter fun n => !(seen.push p.2.2).contains n) = ((L.map (·.2.2)).filter fun n => !seen.contains n).filter fun n => n != p.2.2 := by
    rw [List.filter_filter]
    apply List.filter_congr
    intro n _
    by_cases h1 : n ∈ seen <;> by_cases h2 : n = p.2.2 <;> simp [h1, h2]
  rw [e]
  refine List.length_filter_lt_length_iff_exists.2 ⟨p.2.2, List.mem_filter.2 ⟨List.mem_map.2 ⟨p, hp, rfl⟩, by simpa using hn⟩, by simp⟩

omit [DecidableEq α] in
theorem Iter.next {w : World} {r it : Nat} {f : α → Option Value} {L : List (α × Value × Nat)} {clock : Nat} {seen : Array Nat} (h : Iter K w r it f L clock seen) (ty : TypeId) :
    ((∀ p ∈ L, p.2.2 ∈ seen) ∧ Sem.run Ybaz.prog (Instr.next (.pointer (some ⟨it, 0, none⟩)) false ty) w = .ok (.tuple #[.bool false]) w) ∨
    ∃ (j : Nat) (k : α) (v : Value) (n : Nat) (w' : World), L[j]? = some (k, v, n) ∧ n ∉ seen ∧ Sem.run Ybaz.prog (Instr.next (.pointer (some ⟨it, 0, none⟩)) false ty) w = .ok (.tuple #[.bool true, K k, v]) w' ∧
      Sem.run Ybaz.prog (Instr.entry (.pointer (some ⟨it, 0, none⟩))) w' = .ok (.tuple #[K k, v]) w' ∧ Iter K w' r it f L clock (seen.push n) ∧ Kp (fun b => b = it) w w' ∧ w'.heap.size = w.heap.size := by
  have hold : ∀ x ∈ (ent K L).toArray.toList, x.born < clock := fun x hx => by
    obtain ⟨p, hp, rfl⟩ := List.mem_map.1 (by simpa [ent] using hx : x ∈ L.map fun p => (⟨K p.1, p.2.1, p.2.2⟩ : MapEntry))
    exact h.m.born p hp
  rcases run_next_at (P := Ybaz.prog) w ty it r clock clock seen (ent K L).toArray clock h.i h.m.obj hold (Nat.le_refl _) with ⟨h0, h1⟩ | ⟨e, he, w1, hw1, hrun⟩
  · refine .inl ⟨fun p hp => ?_, h1⟩
    have hemp : leftOf (ent K L).toArray seen = #[] := Array.eq_empty_of_size_eq_zero h0
    unfold leftOf at hemp
    rw [Array.filter_eq_empty_iff] at hemp
    have := hemp ⟨K p.1, p.2.1, p.2.2⟩ (by simp [ent]; exact ⟨_, _, _, hp, rfl, rfl, rfl⟩)
    simpa using this
  · right
    unfold leftOf at he
    simp only [Array.toList_filter, List.mem_filter] at he
    obtain ⟨he1, he2⟩ := he
    obtain ⟨p, hp, rfl⟩ := List.mem_map.1 (by simpa [ent] using he1 : e ∈ L.map fun p => (⟨K p.1, p.2.1, p.2.2⟩ : MapEntry))
    obtain ⟨j, hj⟩ := List.getElem?_of_mem hp
    have hw : w1.heap = w.heap ∧ w1.os = w.os ∧ w1.tape = w.tape ∧ w1.output = w.output := by rcases hw1 with rfl | rfl <;> exact ⟨rfl, rfl, rfl, rfl⟩
    have hit : it < w1.heap.size := by rw [hw.1]; exact h.lt
    have hsame : (ChangeMaps.setBlock w1 it (.mapIter (some r) clock (seen.push p.2.2) clock)).heap[it]? = some (.mapIter (some r) clock (seen.push p.2.2) clock) := by simp [ChangeMaps.setBlock, hit]
    have hother : ∀ b, b ≠ it → (ChangeMaps.setBlock w1 it (.mapIter (some r) clock (seen.push p.2.2) clock)).heap[b]? = w.heap[b]? := fun b hb => by
      simp only [ChangeMaps.setBlock]
      rw [Array.getElem?_setIfInBounds_ne (fun e => hb e.symm), hw.1]
    have hm' : MapR K (ChangeMaps.setBlock w1 it (.mapIter (some r) clock (seen.push p.2.2) clock)) r f L clock := h.m.block (hother r (fun e => h.ne e.symm))
    refine ⟨j, p.1, p.2.1, p.2.2, _, hj, by simpa using he2, hrun, ?_, ⟨hm', hsame⟩, ⟨hw.2.1, hw.2.2.1, hw.2.2.2, by simp [ChangeMaps.setBlock, hw.1], fun k _ hk => hother k hk⟩, by simp [ChangeMaps.setBlock, hw.1]⟩
    exact run_entry_at _ it r clock seen (ent K L).toArray clock ⟨K p.1, p.2.1, p.2.2⟩ hsame hm'.obj (by simp [ent]; exact ⟨_, _, _, hp, rfl, rfl, rfl⟩) (by simp only [ent, List.map_map]; exact h.m.bnd)
end
end Go.Proofs.YbulkbpdqGreat
