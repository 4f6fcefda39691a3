import Derived.Test.YbulkbpkcMaps
namespace Go.Proofs.Ybulkbpkc
open Go.ChangeShapes Go.WideShapes Go.ChangeAt Go.RowKit
set_option linter.unusedVariables false

/-- The cells of a cell, of an area, of a cancelled cell. -/
def cE (e : Int) : List Value := [.string s1, .string s2, .int .u32 e]
def cT (t : Int) : List Value := [.string s1, .string s2, .int .u16 t]
def cC (cb e : Int) : List Value := [.string s1, .string s2, .int .u32 e, .int .u16 cb]

theorem fm_at {α : Type} (f : α → List Value) (sz : Nat) (hf : ∀ x, (f x).length = sz) : ∀ (l : List α) (k : Nat) (x : α), l[k]? = some x → ∀ j, j < sz → (l.flatMap f)[k * sz + j]? = (f x)[j]?
  | [], k, x, h, _, _ => by simp at h
  | y :: l, 0, x, h, j, hj => by
    simp at h; subst h
    rw [List.flatMap_cons, List.getElem?_append_left (by rw [hf]; omega)]; simp
  | y :: l, k + 1, x, h, j, hj => by
    simp at h
    rw [List.flatMap_cons, List.getElem?_append_right (by rw [hf]; have hsm : (k + 1) * sz = k * sz + sz := (by rw [Nat.add_mul, Nat.one_mul]); omega), ← fm_at f sz hf l k x h j hj, hf]
    congr 1
    have hsm : (k + 1) * sz = k * sz + sz := (by rw [Nat.add_mul, Nat.one_mul])
    omega

/-- What is read of an owned row. -/
theorem row_read {α : Type} {w : World} {base : Nat} {e : TypeId} {sz : Nat} {V : Value} {l : List α} (f : α → List Value) (hf : ∀ x, (f x).length = sz) (h : w.ownsRow base e sz V l.length (l.flatMap f)) :
    ∃ a cap, V = .slice a l.length cap ∧ ∀ k x, l[k]? = some x → ∃ g, a = some ⟨g, 0, none⟩ ∧ g < w.heap.size ∧ ∀ j, j < sz → w.cell? ⟨g, k * sz + j, none⟩ = (f x)[j]? := by
  rcases h.2 with ⟨rfl, h0⟩ | ⟨g, cap, cur, rfl, hb, hg, _⟩
  · refine ⟨none, 0, by rw [h0], fun k x hk => ?_⟩
    have := (List.getElem?_eq_some_iff.1 hk).1
    omega
  · refine ⟨_, cap, rfl, fun k x hk => ⟨g, rfl, (Array.getElem?_eq_some_iff.1 hg).1, fun j hj => ?_⟩⟩
    have hkl := (List.getElem?_eq_some_iff.1 hk).1
    have hlt : k * sz + j < l.length * sz := by
      have : (k + 1) * sz ≤ l.length * sz := Nat.mul_le_mul_right sz hkl
      have hsm : (k + 1) * sz = k * sz + sz := (by rw [Nat.add_mul, Nat.one_mul])
      omega
    rw [h.cellAt (k * sz + j) hlt, fm_at f sz hf l k x hk j hj]

theorem owns_later {w w' : World} {base : Nat} {e : TypeId} {sz n : Nat} {V : Value} {xs : List Value} (h : w.ownsRow base e sz V n xs) (hb : Below w.heap.size w w') : w'.ownsRow base e sz V n xs := by
  refine ⟨h.1, ?_⟩
  rcases h.2 with hn | ⟨g, cap, cur, rfl, hg1, hg, rest⟩
  · exact .inl hn
  · refine .inr ⟨g, cap, cur, rfl, hg1, ?_, rest⟩
    rw [hb.block g (Array.getElem?_eq_some_iff.1 hg).1]
    exact hg

theorem Yba.infoE : (Yba.prog.info? 68).map (fun i => (i.zero, i.size, i.bytes)) = some (some (.agg #[.string ⟨#[]⟩, .string ⟨#[]⟩, .int .u32 0]), 3, 40) := by kernel_rfl
theorem Yba.infoT : (Yba.prog.info? 63).map (fun i => (i.zero, i.size, i.bytes)) = some (some (.agg #[.string ⟨#[]⟩, .string ⟨#[]⟩, .int .u16 0]), 3, 40) := by kernel_rfl
theorem Yba.infoC : (Yba.prog.info? 86).map (fun i => (i.zero, i.size, i.bytes)) = some (some (.agg #[.string ⟨#[]⟩, .string ⟨#[]⟩, .int .u32 0, .int .u16 0]), 4, 48) := by kernel_rfl
theorem Yba.infoI : (Yba.prog.info? 88).map (fun i => (i.zero, i.size, i.bytes)) = some (some (.agg #[.string ⟨#[]⟩, .string ⟨#[]⟩, .int .u16 0, .slice none 0 0]), 4, 64) := by kernel_rfl
theorem Yba.infoB : (Yba.prog.info? 61).map (fun i => (i.zero, i.size, i.bytes)) = some (some (.agg #[.string ⟨#[]⟩, .string ⟨#[]⟩, .int .u32 0, .bool false]), 4, 40) := by kernel_rfl

/-- An indication's cells. -/
def indC (msg ser : Int) (C T E : Value) : Nat → Value := fun j => if j = 0 then .int .u16 msg else if j = 1 then .int .u16 ser else if j = 2 then C else if j = 3 then T else E
end Go.Proofs.Ybulkbpkc
