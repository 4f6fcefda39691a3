import Derived.Test.YbulkbpcaGreatTick1
namespace Go.Proofs.YbulkbpcaGreat
open Go.ChangeShapes Go.WideShapes Go.ChangeAt Go.RowKit
set_option linter.unusedVariables false
attribute [local go_sem ↓] eq_peer
attribute [local go_sem] guard_peer field_key

/-- A row of rungs: n of them, the j-th peer 'kf j', 'af j'. -/
def Rgs (w : World) (g n : Nat) (kf af : Nat → ByteArray) : Prop :=
  ∀ j, j < n → w.cell? ⟨g, j * 3, none⟩ = some (.string (kf j)) ∧ w.cell? ⟨g, j * 3 + 1, none⟩ = some (.string (af j))

def atP (n : Nat) (f : Nat → ByteArray) (i : Int) : ByteArray := if 0 ≤ i ∧ i < n then f i.toNat else ⟨#[]⟩

set_option maxRecDepth 100000 in
set_option maxHeartbeats 1000000 in
theorem entry_any (N T g n cap : Nat) (kf af : Nat → ByteArray) (i : Int) (w : World) (hN : N < w.heap.size) (hg : g < w.heap.size) (cT : w.cell? ⟨N, T, none⟩ = some (.slice (some ⟨g, 0, none⟩) n cap)) (hr : Rgs w g n kf af) :
    Calls Ybaz.prog 18 #[.pointer (some ⟨N, T, none⟩), .int .i64 i] w fun e w' => e = .returned (.agg #[.string (atP n kf i), .string (atP n af i)]) ∧ Below w.heap.size w w' := by
  by_cases h0 : i < 0
  · have hd : decide (i < 0) = true := decide_eq_true h0
    have HF : Hid (atP n kf i = ⟨#[]⟩ ∧ atP n af i = ⟨#[]⟩) := by constructor <;> (unfold atP; rw [if_neg (by omega)])
    go_enter Ybaz.func18, Ybaz.ntmps18
    go_wp2
    rw [HF.out.1, HF.out.2]
    exact bodyPost_ret (v := .agg #[.string ⟨#[]⟩, .string ⟨#[]⟩]) (by simp [results, Ybaz.results18, go_sem]) rfl ⟨rfl, (Below.refl _ _).alloc (Nat.le_refl _) _⟩
  · have hd : decide (i < 0) = false := decide_eq_false h0
    by_cases h1 : i < n
    · have hd1 : decide ((n : Int) ≤ i) = false := decide_eq_false (by omega)
      obtain ⟨k, rfl⟩ : ∃ k : Nat, i = k := ⟨i.toNat, by omega⟩
      obtain ⟨q0, q1⟩ := hr k (by omega)
      have HF : Hid (atP n kf k = kf k ∧ atP n af k = af k) := by constructor <;> (unfold atP; rw [if_pos (by omega)]; simp)
      have hk0 : (0 : Int) ≤ (k : Int) := by omega
      have hk7 : (k : Int) < (n : Int) := by omega
      go_enter Ybaz.func18, Ybaz.ntmps18
      go_wp2
      rw [HF.out.1, HF.out.2]
      exact bodyPost_ret (v := .agg #[.string (kf k), .string (af k)]) (by simp [results, Ybaz.results18, go_sem]) rfl ⟨rfl, (Below.refl _ _).alloc (Nat.le_refl _) _⟩
    · have hd1 : decide ((n : Int) ≤ i) = true := decide_eq_true (by omega)
      have HF : Hid (atP n kf i = ⟨#[]⟩ ∧ atP n af i = ⟨#[]⟩) := by constructor <;> (unfold atP; rw [if_neg (by omega)])
      go_enter Ybaz.func18, Ybaz.ntmps18
      go_wp2
      rw [HF.out.1, HF.out.2]
      exact bodyPost_ret (v := .agg #[.string ⟨#[]⟩, .string ⟨#[]⟩]) (by simp [results, Ybaz.results18, go_sem]) rfl ⟨rfl, (Below.refl _ _).alloc (Nat.le_refl _) _⟩

/-- The bit of level k, and whether it is set. -/
def bitOf (k : Nat) : Int := IntKind.u64.wrap (2 ^ min k 64)
def toldAt (t : Int) (k : Nat) : Bool := bits .and .u64 t (bitOf k) != 0
def stepUp (k n : Nat) : Nat := if k + 1 < n then k + 1 else 0

set_option maxRecDepth 100000 in
set_option maxHeartbeats 1000000 in
/-- 'spared' where the level was not told: the question is to be asked. -/
theorem spared_no (N T k : Nat) (t : Int) (w : World) (cW : w.cell? ⟨N, T + 3, none⟩ = some (.int .i64 k)) (cO : w.cell? ⟨N, T + 7, none⟩ = some (.int .u64 t)) (fO : w.frozen? ⟨N, T + 7, none⟩ = false) (htold : toldAt t k = false) :
    Calls Ybaz.prog 15 #[.pointer (some ⟨N, T, none⟩)] w fun e w' => e = .returned (.bool false) ∧ w' = w.setCell ⟨N, T + 7, none⟩ (.int .u64 (bits .andNot .u64 t (bitOf k))) := by
  have hk0 : (0 : Int) ≤ (k : Int) := by omega
  have ht : (bits BinOp.and IntKind.u64 t (IntKind.u64.wrap (2 ^ min k 64)) != 0) = false := htold
  go_enter Ybaz.func15, Ybaz.ntmps15
  go_wp2
  go_ret
  exact ⟨rfl, rfl⟩

set_option maxRecDepth 100000 in
set_option maxHeartbeats 1000000 in
/-- 'spared' where the level was told: the walk goes on. -/
theorem spared_yes (N T g n cap k : Nat) (t : Int) (w : World) (hk : k < n) (hn : n ≤ 1024) (cT : w.cell? ⟨N, T, none⟩ = some (.slice (some ⟨g, 0, none⟩) n cap)) (cW : w.cell? ⟨N, T + 3, none⟩ = some (.int .i64 k)) (fW : w.frozen? ⟨N, T + 3, none⟩ = false) (cO : w.cell? ⟨N, T + 7, none⟩ = some (.int .u64 t)) (fO : w.frozen? ⟨N, T + 7, none⟩ = false) (htold : toldAt t k = true) :
    Calls Ybaz.prog 15 #[.pointer (some ⟨N, T, none⟩)] w fun e w' => e = .returned (.bool true) ∧ ∃ q, w' = ((w.setCell ⟨N, T + 7, none⟩ (.int .u64 (bits .andNot .u64 t (bitOf k)))).drewN q).setCell ⟨N, T + 3, none⟩ (.int .i64 (stepUp k n)) := by
  have hk0 : (0 : Int) ≤ (k : Int) := by omega
  have ht : (bits BinOp.and IntKind.u64 t (IntKind.u64.wrap (2 ^ min k 64)) != 0) = true := htold
  by_cases hs : k + 1 < n
  · have HF : Hid (stepUp k n = k + 1) := if_pos hs
    have hd : decide ((k : Int) + 1 < (n : Int)) = true := decide_eq_true (by omega)
    go_enter Ybaz.func15, Ybaz.ntmps15
    go_wp2_with fail
    go_quiet (fail)
    go_wp2
    go_ret
    rw [HF.out]
    exact ⟨rfl, _, rfl⟩
  · have HF : Hid (stepUp k n = 0) := if_neg hs
    have hd : decide ((k : Int) + 1 < (n : Int)) = false := decide_eq_false (by omega)
    go_enter Ybaz.func15, Ybaz.ntmps15
    go_wp2_with fail
    go_quiet (fail)
    go_wp2
    go_ret
    rw [HF.out]
    exact ⟨rfl, _, rfl⟩
end Go.Proofs.YbulkbpcaGreat
