import Derived.Test.YbulkbpkcEqs
namespace Go.Proofs.Ybulkbpkc
open Go.ChangeShapes Go.WideShapes Go.ChangeAt Go.RowKit
set_option linter.unusedVariables false

/-- How many areas are named for the first k. -/
def posL (z4 : List Int) (n4 : Nat) (z5 : List Int) (n5 : Nat) (z6 : List Int) (k : Nat) : Nat := (named (areaL z4 n4) (fun e => (firsts z5 n5).contains e) (taisL z6 k)).length

theorem taisL_at (z : List Int) {k n : Nat} (h : k < n) : (taisL z n)[k]? = some (z.getD k 0 % 4) := by
  unfold taisL
  rw [List.getElem?_map, List.getElem?_range h]; rfl
theorem taisL_take (z : List Int) {k n : Nat} (h : k ≤ n) : (taisL z n).take k = taisL z k := by
  unfold taisL
  rw [← List.map_take, List.take_range, Nat.min_eq_left h]

theorem named_next (z4 : List Int) (n4 : Nat) (z5 : List Int) (n5 : Nat) (z6 : List Int) (k : Nat) : named (areaL z4 n4) (fun e => (firsts z5 n5).contains e) (taisL z6 (k + 1)) = named (areaL z4 n4) (fun e => (firsts z5 n5).contains e) (taisL z6 k) ++ (if (wantL z4 z5 n4 n5 (z6.getD k 0 % 4)).isEmpty then [] else [(z6.getD k 0 % 4, wantL z4 z5 n4 n5 (z6.getD k 0 % 4))]) := by
  have h := named_snoc (areaL z4 n4) (fun e => (firsts z5 n5).contains e) (taisL z6 (k + 1)) k _ (taisL_at z6 (Nat.lt_succ_self k))
  rw [taisL_take z6 (Nat.le_refl _), taisL_take z6 (Nat.le_succ k)] at h
  rw [h, wantL_is]

theorem posL_skip {z4 : List Int} {n4 : Nat} {z5 : List Int} {n5 : Nat} {z6 : List Int} {k : Nat} (h : wantL z4 z5 n4 n5 (z6.getD k 0 % 4) = []) : posL z4 n4 z5 n5 z6 (k + 1) = posL z4 n4 z5 n5 z6 k := by
  unfold posL
  rw [named_next, h]; simp
theorem posL_hit {z4 : List Int} {n4 : Nat} {z5 : List Int} {n5 : Nat} {z6 : List Int} {k : Nat} (h : wantL z4 z5 n4 n5 (z6.getD k 0 % 4) ≠ []) : posL z4 n4 z5 n5 z6 (k + 1) = posL z4 n4 z5 n5 z6 k + 1 := by
  unfold posL
  rw [named_next, if_neg (by simpa using h)]; simp

theorem named_prefix (A : Int → List Int) (H : Int → Bool) (TL : List Int) (k : Nat) : ∃ r, named A H TL = named A H (TL.take k) ++ r := by
  refine ⟨named A H (TL.drop k), ?_⟩
  unfold named
  rw [← List.filter_append, ← List.map_append, List.take_append_drop]

theorem named_at {OV : List AreaOut} {z4 : List Int} {n4 : Nat} {z5 : List Int} {n5 : Nat} {z6 : List Int} {k n6 : Nat} (hOV : OV.map (fun x => (x.1, x.2.1)) = named (areaL z4 n4) (fun e => (firsts z5 n5).contains e) (taisL z6 n6)) (hk : k < n6) (h : wantL z4 z5 n4 n5 (z6.getD k 0 % 4) ≠ []) :
    ∃ V, OV[posL z4 n4 z5 n5 z6 k]? = some (z6.getD k 0 % 4, wantL z4 z5 n4 n5 (z6.getD k 0 % 4), V) := by
  obtain ⟨r, hr⟩ := named_prefix (areaL z4 n4) (fun e => (firsts z5 n5).contains e) (taisL z6 n6) (k + 1)
  rw [taisL_take z6 hk, named_next, if_neg (by simpa using h)] at hr
  have hm : (OV.map (fun x => (x.1, x.2.1)))[posL z4 n4 z5 n5 z6 k]? = some (z6.getD k 0 % 4, wantL z4 z5 n4 n5 (z6.getD k 0 % 4)) := by
    rw [hOV, hr, List.append_assoc]
    unfold posL
    rw [List.getElem?_append_right (Nat.le_refl _)]; simp
  rw [List.getElem?_map] at hm
  cases ho : OV[posL z4 n4 z5 n5 z6 k]? with
  | none => rw [ho] at hm; cases hm
  | some x =>
    rw [ho] at hm
    obtain ⟨x1, x2, x3⟩ := x
    simp at hm
    obtain ⟨h1, h2⟩ := hm
    exact ⟨x3, by rw [h1, h2]; simp⟩
theorem posL_all {OV : List AreaOut} {z4 : List Int} {n4 : Nat} {z5 : List Int} {n5 : Nat} {z6 : List Int} {n6 : Nat} (hOV : OV.map (fun x => (x.1, x.2.1)) = named (areaL z4 n4) (fun e => (firsts z5 n5).contains e) (taisL z6 n6)) : posL z4 n4 z5 n5 z6 n6 = OV.length := by
  unfold posL
  rw [← hOV, List.length_map]
theorem posL_le (z4 : List Int) (n4 : Nat) (z5 : List Int) (n5 : Nat) (z6 : List Int) (k : Nat) : posL z4 n4 z5 n5 z6 k ≤ k := by
  unfold posL named
  exact Nat.le_trans (List.length_filter_le _ _) (by rw [List.length_map, taisL]; simp)
end Go.Proofs.Ybulkbpkc
