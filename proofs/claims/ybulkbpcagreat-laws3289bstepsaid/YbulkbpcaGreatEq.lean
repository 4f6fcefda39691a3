import Derived.Test.YbulkbpcaGreatBlk
import Derived.Laws.StructEq
namespace Go.Proofs.YbulkbpcaGreat
open Go.ChangeShapes Go.WideShapes Go.ChangeAt Go.RowKit
set_option linter.unusedVariables false

/-- Two peers are one: their keys are, and their addresses. -/
def peq (k a k' a' : ByteArray) : Bool := (k.toList == k'.toList) && (a.toList == a'.toList)

theorem toList_inj {a b : ByteArray} (h : a.toList = b.toList) : a = b := by
  rw [ByteArray.toList_eq, ByteArray.toList_eq] at h
  obtain ⟨x⟩ := a
  obtain ⟨y⟩ := b
  simp at h
  rw [h]

theorem peq_iff (k a k' a' : ByteArray) : peq k a k' a' = true ↔ k = k' ∧ a = a' := by
  unfold peq
  constructor
  · intro h
    simp only [Bool.and_eq_true, beq_iff_eq] at h
    exact ⟨toList_inj h.1, toList_inj h.2⟩
  · rintro ⟨rfl, rfl⟩; simp

theorem peq_self (k a : ByteArray) : peq k a k a = true := (peq_iff _ _ _ _).2 ⟨rfl, rfl⟩

theorem peq_false {k a k' a' : ByteArray} (h : ¬ (k = k' ∧ a = a')) : peq k a k' a' = false := by
  cases e : peq k a k' a' with
  | false => rfl
  | true => exact absurd ((peq_iff _ _ _ _).1 e) h

theorem eq_peer (k a k' a' : ByteArray) (w : World) : Sem.run Ybaz.prog (Op.equalIn 10000 30 (.agg #[.string k, .string a]) (.agg #[.string k', .string a'])) w = .ok (peq k a k' a') w := by
  have u3 := Ybaz.underlying9
  have a3 := Ybaz.isAgg9
  have z3 := Ybaz.sizeOf9
  have hS : Ybaz.prog.underlying 30 = some (.struct (Ybaz.prog.fieldsOf 30)) := by kernel_rfl
  have hp : Ybaz.prog.stoodInHeld 30 = false := by kernel_rfl
  rw [show (10000 : Nat) = 9999 + 1 from rfl, run_equalIn_agg w 9999 30 _ _ hS hp]
  simp only [Program.fieldsOf, Ybaz.underlying30]
  go_simp
  unfold peq
  by_cases h1 : k.toList = k'.toList <;> by_cases h2 : a.toList = a'.toList <;> simp [h1, h2]

theorem field_key (k a : ByteArray) (w : World) : Sem.run Ybaz.prog (Instr.field 30 (.agg #[.string k, .string a]) 0) w = .ok (.string k) w := by kernel_rfl

theorem guard_peer : Ybaz.prog.eqGuardType Ybaz.prog.depth 30 = false := by kernel_rfl

end Go.Proofs.YbulkbpcaGreat
