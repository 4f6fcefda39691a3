import Derived.Test.YbulkbpcaGreatNew
namespace Go.Proofs.YbulkbpcaGreat
open Go.ChangeShapes Go.WideShapes Go.ChangeAt Go.RowKit
set_option linter.unusedVariables false

/-- The key and the address of the law's peer number x. -/
def pk (x : Int) : ByteArray := ⟨#[107, UInt8.ofNat (48 + (x % 6).toNat)]⟩
def pa (x : Int) : ByteArray := ⟨#[64]⟩ ++ pk x

theorem pk_of (x : Int) (c : Nat) (h : x % 6 = (c : Int)) : pk x = ⟨#[107, UInt8.ofNat (48 + c)]⟩ := by
  unfold pk; rw [h]; simp

set_option maxHeartbeats 1000000 in
theorem peer_any (x : Int) (h0 : 0 ≤ x) (h1 : x ≤ 255) (w : World) :
    Calls Ybaz.prog 7 #[.int .u8 x] w fun e w' => e = .returned (.agg #[.string (pk x), .string (pa x)]) ∧ Below w.heap.size w w' := by
  unfold pa
  rcases (show x % 6 = (0 : Nat) ∨ x % 6 = (1 : Nat) ∨ x % 6 = (2 : Nat) ∨ x % 6 = (3 : Nat) ∨ x % 6 = (4 : Nat) ∨ x % 6 = (5 : Nat) from by omega) with h | h | h | h | h | h
  all_goals
    rw [pk_of x _ h]
    go_enter Ybaz.func7, Ybaz.ntmps7
    go_wp2
    refine bodyPost_ret (v := .agg #[.string _, .string _]) (by simp [results, Ybaz.results7, go_sem]) rfl ⟨rfl, ?_⟩
    exact ((Below.refl _ _).alloc (Nat.le_refl _) _).alloc (by simp) _
end Go.Proofs.YbulkbpcaGreat
