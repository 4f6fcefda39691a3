import Derived.Test.YbulkbpkcParts
import Derived.WideKeyEntry
import Derived.RangeFuncRecord
namespace Go.Proofs.Ybulkbpkc
open Go.ChangeShapes Go.WideShapes Go.ChangeAt Go.RowKit
set_option linter.unusedVariables false

/-- An area's key, and a cell's. -/
def K16 (t : Int) : Value := .agg #[.string s1, .string s2, .int .u16 t]
def K32 (t : Int) : Value := .agg #[.string s1, .string s2, .int .u32 t]

theorem eq58 (w : World) : Sem.run Yba.prog (Op.equalIn 9999 58 (.agg #[.string s1, .string s2]) (.agg #[.string s1, .string s2])) w = .ok true w := by kernel_rfl
theorem eq63 (t t' : Int) (w : World) : Sem.run Yba.prog (Op.equalIn 10000 63 (K16 t) (K16 t')) w = .ok (t == t') w := by
  have u3 := Yba.underlying22
  have a3 := Yba.isAgg22
  have z3 := Yba.sizeOf22
  have a58 := Yba.isAgg58
  have z58 := Yba.sizeOf58
  have h58 := eq58
  have hS : Yba.prog.underlying 63 = some (.struct (Yba.prog.fieldsOf 63)) := by kernel_rfl
  have hp : Yba.prog.stoodInHeld 63 = false := by kernel_rfl
  unfold K16
  rw [show (10000 : Nat) = 9999 + 1 from rfl, run_equalIn_agg w 9999 63 _ _ hS hp]
  simp only [Program.fieldsOf, Yba.underlying63]
  go_simp
  by_cases h : t = t' <;> simp [h]
theorem eq68 (t t' : Int) (w : World) : Sem.run Yba.prog (Op.equalIn 10000 68 (K32 t) (K32 t')) w = .ok (t == t') w := by
  have u3 := Yba.underlying40
  have a3 := Yba.isAgg40
  have z3 := Yba.sizeOf40
  have a58 := Yba.isAgg58
  have z58 := Yba.sizeOf58
  have h58 := eq58
  have hS : Yba.prog.underlying 68 = some (.struct (Yba.prog.fieldsOf 68)) := by kernel_rfl
  have hp : Yba.prog.stoodInHeld 68 = false := by kernel_rfl
  unfold K32
  rw [show (10000 : Nat) = 9999 + 1 from rfl, run_equalIn_agg w 9999 68 _ _ hS hp]
  simp only [Program.fieldsOf, Yba.underlying68]
  go_simp
  by_cases h : t = t' <;> simp [h]
theorem chk63 (b : Bool) (t : Int) (w : World) : Sem.run Yba.prog (Instr.checkKey b 10000 63 (K16 t)) w = .ok () w := by kernel_rfl
theorem chk68 (b : Bool) (t : Int) (w : World) : Sem.run Yba.prog (Instr.checkKey b 10000 68 (K32 t)) w = .ok () w := by kernel_rfl
theorem bits16 (t : Int) : Instr.sameBits 10000 (K16 t) (K16 t) = true := by
  simp [Instr.sameBits, K16]; decide
theorem bits32 (t : Int) : Instr.sameBits 10000 (K32 t) (K32 t) = true := by
  simp [Instr.sameBits, K32]; decide

/-- What is asked of a map's key: 63, 'K16'; 68, 'K32'. -/
structure KeyOk (ty : TypeId) (K : Int → Value) : Prop where
  eq : ∀ (t t' : Int) (w : World), Sem.run Yba.prog (Op.equal ty (K t) (K t')) w = .ok (t == t') w
  chk : ∀ (b : Bool) (t : Int) (w : World), Sem.run Yba.prog (Instr.checkKey b 10000 ty (K t)) w = .ok () w
  bits : ∀ t, Instr.sameBits 10000 (K t) (K t) = true
  now : ∀ (t : Int) (e : MapEntry) (l : List MapEntry) (i : Nat) (w : World), (∃ t', e.key = K t') → Sem.run Yba.prog (Instr.findKey ty (K t) (e :: l)) w = Sem.run Yba.prog (Instr.findAsking ty (K t) (e :: l) 0) w
  nil : ∀ (t : Int) (w : World), Sem.run Yba.prog (Instr.findKey ty (K t) []) w = .ok none w

theorem key63 : KeyOk 63 K16 :=
  ⟨fun t t' w => by simp only [Op.equal, Op.maxDepth]; exact eq63 t t' w, chk63, bits16, fun t e l i w h => by
    obtain ⟨t', h⟩ := h
    obtain ⟨k, v, bn⟩ := e
    simp only at h
    subst h
    simp [Instr.findKey, run_underlying Yba.underlying63, Instr.findNow, Instr.sameNow, Result.andThen], fun t w => by
    simp [Instr.findKey, run_underlying Yba.underlying63, Instr.findNow, Result.andThen]⟩
theorem key68 : KeyOk 68 K32 :=
  ⟨fun t t' w => by simp only [Op.equal, Op.maxDepth]; exact eq68 t t' w, chk68, bits32, fun t e l i w h => by
    obtain ⟨t', h⟩ := h
    obtain ⟨k, v, bn⟩ := e
    simp only at h
    subst h
    simp [Instr.findKey, run_underlying Yba.underlying68, Instr.findNow, Instr.sameNow, Result.andThen], fun t w => by
    simp [Instr.findKey, run_underlying Yba.underlying68, Instr.findNow, Result.andThen]⟩

section
variable {ty : TypeId} {K : Int → Value}

theorem asking_miss (H : KeyOk ty K) (t : Int) (w : World) : ∀ (l : List MapEntry) (i : Nat), (∀ e ∈ l, ∃ t', e.key = K t' ∧ t' ≠ t) → Sem.run Yba.prog (Instr.findAsking ty (K t) l i) w = .ok none w
  | [], i, _ => by simp [Instr.findAsking]
  | e :: l, i, h => by
    obtain ⟨t', h1, h2⟩ := h e (by simp)
    have hne : (t == t') = false := by simpa using fun h => h2 h.symm
    rw [Instr.findAsking]
    simp only [Sem.run_bind, h1, H.eq, Result.andThen_ok, hne]
    exact asking_miss H t w l (i + 1) (fun e he => h e (by simp [he]))

theorem asking_hit (H : KeyOk ty K) (t : Int) (w : World) (v : Value) : ∀ (l : List MapEntry) (i j : Nat), (∀ e ∈ l.take j, ∃ t', e.key = K t' ∧ t' ≠ t) → (∃ bn, l[j]? = some ⟨K t, v, bn⟩) → Sem.run Yba.prog (Instr.findAsking ty (K t) l i) w = .ok (some (i + j, v)) w
  | [], i, j, _, h => by obtain ⟨bn, h⟩ := h; simp at h
  | e :: l, i, 0, _, h => by
    obtain ⟨bn, h⟩ := h
    simp at h
    subst h
    rw [Instr.findAsking]
    simp [H.eq]
  | e :: l, i, j + 1, hm, h => by
    obtain ⟨t', h1, h2⟩ := hm e (by simp)
    have hne : (t == t') = false := by simpa using fun h => h2 h.symm
    rw [Instr.findAsking]
    simp only [Sem.run_bind, h1, H.eq, Result.andThen_ok, hne]
    have := asking_hit H t w v l (i + 1) j (fun e he => hm e (by simp [he])) (by simpa using h)
    rw [show i + (j + 1) = i + 1 + j from by omega]
    exact this

/-- The entries of a map that was only ever added to. -/
def ent (K : Int → Value) (L : List (Int × Value)) : List MapEntry := L.mapIdx fun i p => ⟨K p.1, p.2, i⟩

theorem ent_len (L : List (Int × Value)) : (ent K L).length = L.length := by simp [ent]
theorem ent_get (L : List (Int × Value)) (i : Nat) : (ent K L)[i]? = (L[i]?).map fun p => ⟨K p.1, p.2, i⟩ := by simp [ent]

theorem find_miss (H : KeyOk ty K) (t : Int) (w : World) (L : List (Int × Value)) (h : ∀ p ∈ L, p.1 ≠ t) : Sem.run Yba.prog (Instr.findKey ty (K t) (ent K L)) w = .ok none w := by
  have hm : ∀ e ∈ ent K L, ∃ t', e.key = K t' ∧ t' ≠ t := fun e he => by
    obtain ⟨i, hi⟩ := List.getElem?_of_mem he
    rw [ent_get] at hi
    cases hL : L[i]? with
    | none => rw [hL] at hi; cases hi
    | some p => rw [hL] at hi; simp at hi; subst hi; exact ⟨p.1, rfl, h p (List.mem_of_getElem? hL)⟩
  cases hE : ent K L with
  | nil => exact H.nil t w
  | cons e l =>
    rw [hE] at hm
    obtain ⟨t', h1, _⟩ := hm e (by simp)
    rw [H.now t e l 0 w ⟨t', h1⟩]
    exact asking_miss H t w _ 0 hm

theorem find_hit (H : KeyOk ty K) (t : Int) (v : Value) (w : World) (L : List (Int × Value)) (j : Nat) (hj : L[j]? = some (t, v)) (h : ∀ i p, i < j → L[i]? = some p → p.1 ≠ t) : Sem.run Yba.prog (Instr.findKey ty (K t) (ent K L)) w = .ok (some (j, v)) w := by
  have hm : ∀ e ∈ (ent K L).take j, ∃ t', e.key = K t' ∧ t' ≠ t := fun e he => by
    obtain ⟨i, hi⟩ := List.getElem?_of_mem he
    rw [List.getElem?_take] at hi
    split at hi
    · next hij =>
      rw [ent_get] at hi
      cases hL : L[i]? with
      | none => rw [hL] at hi; cases hi
      | some p => rw [hL] at hi; simp at hi; subst hi; exact ⟨p.1, rfl, h i p hij hL⟩
    · cases hi
  have hh : (ent K L)[j]? = some ⟨K t, v, j⟩ := by rw [ent_get, hj]; rfl
  cases hE : ent K L with
  | nil => rw [hE] at hh; simp at hh
  | cons e l =>
    have hk : ∃ t', e.key = K t' := by
      have : (ent K L)[0]? = some e := by rw [hE]; rfl
      rw [ent_get] at this
      cases hL : L[0]? with
      | none => rw [hL] at this; cases this
      | some p => rw [hL] at this; simp at this; exact ⟨p.1, by rw [← this]⟩
    rw [H.now t e l 0 w hk]
    rw [hE] at hm hh
    have := asking_hit H t w v _ 0 j hm ⟨j, hh⟩
    simpa using this

/-- Block r is the map of the entries L. -/
def MapAt (K : Int → Value) (w : World) (r : Nat) (L : List (Int × Value)) : Prop := w.heap[r]? = some (.map (ent K L).toArray L.length)

theorem MapAt.lt {w : World} {r : Nat} {L : List (Int × Value)} (h : MapAt K w r L) : r < w.heap.size := (Array.getElem?_eq_some_iff.1 h).1

theorem ent_snoc (L : List (Int × Value)) (p : Int × Value) : ent K (L ++ [p]) = ent K L ++ [⟨K p.1, p.2, L.length⟩] := by
  apply List.ext_getElem?
  intro i
  rw [ent_get]
  by_cases h : i < L.length
  · rw [List.getElem?_append_left h, List.getElem?_append_left (by rw [ent_len]; exact h), ent_get]
  · rw [List.getElem?_append_right (by omega), List.getElem?_append_right (by rw [ent_len]; omega), ent_len]
    by_cases h2 : i = L.length
    · subst h2; simp
    · rw [List.getElem?_eq_none (by simp; omega), List.getElem?_eq_none (by simp; omega)]; rfl

theorem ent_set (L : List (Int × Value)) (i : Nat) (t : Int) (v v' : Value) (h : L[i]? = some (t, v)) : (ent K L).modify i (fun e => { e with val := v' }) = ent K (L.set i (t, v')) := by
  apply List.ext_getElem?
  intro j
  rw [List.getElem?_modify, ent_get, ent_get, List.getElem?_set]
  by_cases hij : i = j
  · subst hij
    have hl := (List.getElem?_eq_some_iff.1 h).1
    rw [h]; simp [hl]
  · simp [hij]

theorem ent_key (L : List (Int × Value)) (i : Nat) (t : Int) (v : Value) (h : L[i]? = some (t, v)) : (ent K L).modify i (fun e => { e with key := K t }) = ent K L := by
  apply List.ext_getElem?
  intro j
  rw [List.getElem?_modify, ent_get]
  by_cases hij : i = j
  · subst hij; rw [h]; simp
  · simp [hij]

theorem lookup_hit (H : KeyOk ty K) {mt e : TypeId} (hm : Yba.prog.underlying mt = some (.map ty e)) {w : World} {r : Nat} {L : List (Int × Value)} (h : MapAt K w r L) (t : Int) (v : Value) (j : Nat) (hj : L[j]? = some (t, v)) (hf : ∀ i p, i < j → L[i]? = some p → p.1 ≠ t) :
    Sem.run Yba.prog (Instr.lookup mt (.map (some r)) (K t) false) w = .ok v w := by
  simp [Instr.lookup, run_underlying hm, MapKept.run_getObj_map h, H.chk, find_hit H t v w L j hj hf, Result.andThen]

theorem lookup_miss (H : KeyOk ty K) {mt e : TypeId} (hm : Yba.prog.underlying mt = some (.map ty e)) {z : Value} (hz : ∀ u : World, (zeroValue e).run Yba.prog u = .ok z u) {w : World} {r : Nat} {L : List (Int × Value)} (h : MapAt K w r L) (t : Int) (hf : ∀ p ∈ L, p.1 ≠ t) :
    Sem.run Yba.prog (Instr.lookup mt (.map (some r)) (K t) false) w = .ok z w := by
  simp [Instr.lookup, run_underlying hm, MapKept.run_getObj_map h, H.chk, find_miss H t w L hf, hz, Result.andThen]

theorem put_same {w : World} {r : Nat} {o : Obj} (h : w.heap[r]? = some o) : w.putObj r o = w := by
  have hl := (Array.getElem?_eq_some_iff.1 h).1
  unfold World.putObj
  have : w.heap.setIfInBounds r o = w.heap := by
    apply Array.ext_getElem?
    intro k
    rw [Array.getElem?_setIfInBounds]
    by_cases hk : r = k
    · subst hk; simp [hl]
      exact (Array.getElem?_eq_some_iff.1 h).2.symm
    · simp [hk]
  rw [this]

theorem entry_hit (H : KeyOk ty K) {mt e : TypeId} (hm : Yba.prog.underlying mt = some (.map ty e)) {w : World} {r : Nat} {L : List (Int × Value)} (h : MapAt K w r L) (t : Int) (v : Value) (j : Nat) (hj : L[j]? = some (t, v)) (hf : ∀ i p, i < j → L[i]? = some p → p.1 ≠ t) :
    Sem.run Yba.prog (Instr.mapEntry mt (.map (some r)) (K t)) w = .ok (.tuple #[v, .int .i64 j]) w := by
  have he : (ent K L)[j]? = some ⟨K t, v, j⟩ := by rw [ent_get, hj]; rfl
  have hk := ent_key (K := K) L j t v hj
  have hput := put_same h
  simp [Instr.mapEntry, run_underlying hm, MapKept.run_getObj_map h, H.chk, find_hit H t v w L j hj hf, Result.andThen, Instr.keyThatStays, H.bits, he, hk, MapKept.run_setObj_map _ h, goInt]
  exact hput

theorem entry_miss (H : KeyOk ty K) {mt e : TypeId} (hm : Yba.prog.underlying mt = some (.map ty e)) {z : Value} (hz : ∀ u : World, (zeroValue e).run Yba.prog u = .ok z u) {w : World} {r : Nat} {L : List (Int × Value)} (h : MapAt K w r L) (t : Int) (hf : ∀ p ∈ L, p.1 ≠ t) :
    Sem.run Yba.prog (Instr.mapEntry mt (.map (some r)) (K t)) w = .ok (.tuple #[z, .int .i64 L.length]) (w.putObj r (.map (ent K (L ++ [(t, z)])).toArray (L.length + 1))) := by
  simp [Instr.mapEntry, run_underlying hm, MapKept.run_getObj_map h, H.chk, find_miss H t w L hf, hz, Result.andThen, MapKept.run_setObj_map _ h, goInt, ent_snoc, World.putObj]

theorem store_entry {mt : TypeId} {w : World} {r : Nat} {L : List (Int × Value)} (h : MapAt K w r L) (t : Int) (v v' : Value) (j : Nat) (hj : L[j]? = some (t, v)) :
    Sem.run Yba.prog (Instr.entryStore mt (.map (some r)) (.int .i64 j) v') w = .ok () (w.putObj r (.map (ent K (L.set j (t, v'))).toArray L.length)) := by
  have hidx : (ent K L).toArray.findIdx? (fun e => ((e.born : Nat) : Int) == ((j : Nat) : Int)) = some j := by
    rw [WideElems.findIdx_arr]
    have hn : ((ent K L).map (·.born)) = List.range L.length := by
      apply List.ext_getElem?
      intro i
      rw [List.getElem?_map, ent_get]
      by_cases hi : i < L.length
      · rw [List.getElem?_eq_getElem hi]; simp [hi]
      · rw [List.getElem?_eq_none (by omega), List.getElem?_eq_none (by simp; omega)]; rfl
    have := WideElems.findIdx_born (l := ent K L) (by rw [hn]; exact List.nodup_range) (j := j) (e0 := ⟨K t, v, j⟩) (by rw [ent_get, hj]; rfl)
    simpa using this
  have hk := ent_set (K := K) L j t v v' hj
  simp [Instr.entryStore, MapKept.run_getObj_map h, asInt, asIntOf, hidx, hk, MapKept.run_setObj_map _ h, Result.andThen, World.putObj]

theorem update_miss (H : KeyOk ty K) {mt e : TypeId} (hm : Yba.prog.underlying mt = some (.map ty e)) {w : World} {r : Nat} {L : List (Int × Value)} (h : MapAt K w r L) (t : Int) (v : Value) (hf : ∀ p ∈ L, p.1 ≠ t) :
    Sem.run Yba.prog (Instr.mapUpdate mt (.map (some r)) (K t) v) w = .ok () (w.putObj r (.map (ent K (L ++ [(t, v)])).toArray (L.length + 1))) := by
  simp [Instr.mapUpdate, run_underlying hm, MapKept.run_getObj_map h, H.chk, find_miss H t w L hf, Result.andThen, MapKept.run_setObj_map _ h, ent_snoc, World.putObj]

theorem MapAt.put {w : World} {r : Nat} {L : List (Int × Value)} (hr : r < w.heap.size) : MapAt K (w.putObj r (.map (ent K L).toArray L.length)) r L := World.putObj_heap_same hr
end
end Go.Proofs.Ybulkbpkc
