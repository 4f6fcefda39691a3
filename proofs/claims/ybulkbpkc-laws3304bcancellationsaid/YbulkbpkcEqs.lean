import Derived.Test.YbulkbpkcLawC
import Derived.Laws.StructEq
namespace Go.Proofs.Ybulkbpkc
open Go.ChangeShapes Go.WideShapes Go.ChangeAt Go.RowKit
set_option linter.unusedVariables false

/-- Two stations, two cancelled cells, two areas are one just if their codes are. -/
theorem eq61 (t t' : Int) (w : World) : Sem.run Yba.prog (Op.equalIn 10000 61 (.agg #[.string s1, .string s2, .int .u32 t, .bool false]) (.agg #[.string s1, .string s2, .int .u32 t', .bool false])) w = .ok (t == t') w := by
  have u3 := Yba.underlying40
  have a3 := Yba.isAgg40
  have z3 := Yba.sizeOf40
  have u4 := Yba.underlying4
  have a4 := Yba.isAgg4
  have z4 := Yba.sizeOf4
  have a58 := Yba.isAgg58
  have z58 := Yba.sizeOf58
  have h58 := eq58
  have hS : Yba.prog.underlying 61 = some (.struct (Yba.prog.fieldsOf 61)) := by kernel_rfl
  have hp : Yba.prog.stoodInHeld 61 = false := by kernel_rfl
  rw [show (10000 : Nat) = 9999 + 1 from rfl, run_equalIn_agg w 9999 61 _ _ hS hp]
  simp only [Program.fieldsOf, Yba.underlying61]
  go_simp
  by_cases h : t = t' <;> simp [h]
theorem eq68' (t t' : Int) (w : World) : Sem.run Yba.prog (Op.equalIn 9999 68 (.agg #[.string s1, .string s2, .int .u32 t]) (.agg #[.string s1, .string s2, .int .u32 t'])) w = .ok (t == t') w := by
  have u3 := Yba.underlying40
  have a3 := Yba.isAgg40
  have z3 := Yba.sizeOf40
  have a58 := Yba.isAgg58
  have z58 := Yba.sizeOf58
  have h58 : ∀ w : World, Sem.run Yba.prog (Op.equalIn 9998 58 (.agg #[.string s1, .string s2]) (.agg #[.string s1, .string s2])) w = .ok true w := fun w => by kernel_rfl
  have hS : Yba.prog.underlying 68 = some (.struct (Yba.prog.fieldsOf 68)) := by kernel_rfl
  have hp : Yba.prog.stoodInHeld 68 = false := by kernel_rfl
  rw [show (9999 : Nat) = 9998 + 1 from rfl, run_equalIn_agg w 9998 68 _ _ hS hp]
  simp only [Program.fieldsOf, Yba.underlying68]
  go_simp
  by_cases h : t = t' <;> simp [h]
theorem eq86 (t t' : Int) (c : Int) (w : World) : Sem.run Yba.prog (Op.equalIn 10000 86 (.agg #[.string s1, .string s2, .int .u32 t, .int .u16 c]) (.agg #[.string s1, .string s2, .int .u32 t', .int .u16 c])) w = .ok (t == t') w := by
  have u3 := Yba.underlying22
  have a3 := Yba.isAgg22
  have z3 := Yba.sizeOf22
  have a68 := Yba.isAgg68
  have z68 := Yba.sizeOf68
  have h68 := eq68'
  have hS : Yba.prog.underlying 86 = some (.struct (Yba.prog.fieldsOf 86)) := by kernel_rfl
  have hp : Yba.prog.stoodInHeld 86 = false := by kernel_rfl
  rw [show (10000 : Nat) = 9999 + 1 from rfl, run_equalIn_agg w 9999 86 _ _ hS hp]
  simp only [Program.fieldsOf, Yba.underlying86]
  go_simp
  by_cases h : t = t' <;> simp [h]
theorem eq63' (t t' : Int) (w : World) : Sem.run Yba.prog (Op.equalIn 10000 63 (.agg #[.string s1, .string s2, .int .u16 t]) (.agg #[.string s1, .string s2, .int .u16 t'])) w = .ok (t == t') w := eq63 t t' w
theorem guard61 : Yba.prog.eqGuardType Yba.prog.depth 61 = false := by kernel_rfl
theorem guard63 : Yba.prog.eqGuardType Yba.prog.depth 63 = false := by kernel_rfl
theorem guard86 : Yba.prog.eqGuardType Yba.prog.depth 86 = false := by kernel_rfl
end Go.Proofs.Ybulkbpkc
