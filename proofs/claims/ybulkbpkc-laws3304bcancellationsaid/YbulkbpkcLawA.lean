import Derived.Test.YbulkbpkcCanU
namespace Go.Proofs.Ybulkbpkc
open Go.ChangeShapes Go.WideShapes Go.ChangeAt Go.RowKit
set_option linter.unusedVariables false

/-- The law's text behind a region. -/
def isRegion (n : Nat) : Code → Bool
  | .region k _ _ => k == n
  | _ => false
def afterRegion (n : Nat) : Code → Option Code
  | .seq a b => if isRegion n a then some b else match afterRegion n a with
    | some c => some c
    | none => afterRegion n b
  | .scope c => afterRegion n c
  | .block _ c => afterRegion n c
  | .loop c => afterRegion n c
  | .cond _ a b => match afterRegion n a with
    | some c => some c
    | none => afterRegion n b
  | _ => none

/-- The cells of area t among the first n bytes of z. -/
def areaL (z : List Int) (n : Nat) (t : Int) : List Int := ((List.range n).filter fun j => z.getD j 0 / 16 % 4 == t).map fun j => z.getD j 0 % 8
/-- The different cells among the first n bytes of z, in the order of their first coming. -/
def firsts (z : List Int) : Nat → List Int
  | 0 => []
  | n + 1 => if (firsts z n).contains (z.getD n 0 % 8) then firsts z n else firsts z n ++ [z.getD n 0 % 8]
def taisL (z : List Int) (n : Nat) : List Int := (List.range n).map fun j => z.getD j 0 % 4

theorem areaL_len (z : List Int) (n : Nat) (t : Int) : (areaL z n t).length ≤ n := by
  unfold areaL
  rw [List.length_map]
  exact Nat.le_trans (List.length_filter_le _ _) (by simp)
theorem areaL_hit (z : List Int) (n : Nat) (t : Int) (h : z.getD n 0 / 16 % 4 = t) : areaL z (n + 1) t = areaL z n t ++ [z.getD n 0 % 8] := by
  unfold areaL
  rw [List.range_succ, List.filter_append, List.map_append]
  congr 1
  rw [List.filter_cons_of_pos (by simpa using h)]; rfl
theorem areaL_miss (z : List Int) (n : Nat) (t : Int) (h : z.getD n 0 / 16 % 4 ≠ t) : areaL z (n + 1) t = areaL z n t := by
  unfold areaL
  rw [List.range_succ, List.filter_append, List.map_append, List.filter_cons_of_neg (by simpa using h)]
  simp

theorem firsts_succ (z : List Int) (n : Nat) : firsts z (n + 1) = if (firsts z n).contains (z.getD n 0 % 8) then firsts z n else firsts z n ++ [z.getD n 0 % 8] := rfl
theorem firsts_len (z : List Int) : ∀ n, (firsts z n).length ≤ n
  | 0 => by simp [firsts]
  | n + 1 => by
    have := firsts_len z n
    rw [firsts_succ]
    split
    · omega
    · rw [List.length_append]; simp; omega

/-- A cell is in the set just if some byte names it. -/
theorem firsts_in (z : List Int) (e : Int) : ∀ n, (firsts z n).contains (e % 8) = inS z n e
  | 0 => by simp [firsts, inS]
  | n + 1 => by
    have ih := firsts_in z e n
    have hs : inS z (n + 1) e = (inS z n e || (z.getD n 0 % 8 == e % 8)) := by
      unfold inS
      rw [List.range_succ, List.any_append]; simp
    rw [hs, ← ih, firsts_succ]
    split
    · next h =>
      by_cases h2 : z.getD n 0 % 8 = e % 8
      · rw [← h2, h]; simp
      · have : (z.getD n 0 % 8 == e % 8) = false := by simpa using h2
        rw [this, Bool.or_false]
    · next h =>
      rw [List.contains_eq_mem, List.contains_eq_mem]
      by_cases h2 : z.getD n 0 % 8 = e % 8
      · rw [h2]; simp
      · have h3 : (z.getD n 0 % 8 == e % 8) = false := by simpa using h2
        rw [h3, Bool.or_false]
        have h4 : ¬ (e % 8 = z.getD n 0 % 8) := fun h => h2 h.symm
        simp only [List.mem_append, List.mem_singleton, h4, or_false]

theorem firsts_old {z : List Int} {n : Nat} (h : inS z n (z.getD n 0) = true) : firsts z (n + 1) = firsts z n := by
  rw [firsts, if_pos (by rw [firsts_in]; exact h)]
theorem firsts_new {z : List Int} {n : Nat} (h : inS z n (z.getD n 0) = false) : firsts z (n + 1) = firsts z n ++ [z.getD n 0 % 8] := by
  rw [firsts, if_neg (by rw [firsts_in, h]; simp)]

/-- What came first stays. -/
theorem firsts_prefix (z : List Int) {k n : Nat} (h : k ≤ n) : ∃ r, firsts z n = firsts z k ++ r := by
  induction n with
  | zero => obtain rfl : k = 0 := by omega
            exact ⟨[], by simp⟩
  | succ n ih =>
    by_cases e : k = n + 1
    · subst e; exact ⟨[], by simp⟩
    · obtain ⟨r, hr⟩ := ih (by omega)
      cases hi : inS z n (z.getD n 0) with
      | true => exact ⟨r, by rw [firsts_old hi]; exact hr⟩
      | false => exact ⟨r ++ [z.getD n 0 % 8], by rw [firsts_new hi, hr, List.append_assoc]⟩
theorem firsts_at {z : List Int} {k n : Nat} (h : k < n) (hi : inS z k (z.getD k 0) = false) : (firsts z n)[(firsts z k).length]? = some (z.getD k 0 % 8) := by
  obtain ⟨r, hr⟩ := firsts_prefix z (k := k + 1) (n := n) h
  rw [hr, firsts_new hi, List.append_assoc, List.getElem?_append_right (Nat.le_refl _)]
  simp

/-- What the law wants of one area, over the first n bytes of the areas. -/
def wantL (z4 z5 : List Int) (n n5 : Nat) (t : Int) : List Int := ((List.range n).filter fun j => z4.getD j 0 / 16 % 4 == t && inS z5 n5 (z4.getD j 0)).map fun j => z4.getD j 0 % 8
theorem wantL_is (z4 z5 : List Int) (n n5 : Nat) (t : Int) : wantL z4 z5 n n5 t = (areaL z4 n t).filter fun e => (firsts z5 n5).contains e := by
  unfold wantL areaL
  rw [List.filter_map, List.filter_filter]
  congr 1
  apply List.filter_congr
  intro j _
  simp only [Function.comp]
  rw [firsts_in, Bool.and_comm]
theorem wantL_hit (z4 z5 : List Int) (n n5 : Nat) (t : Int) (h : z4.getD n 0 / 16 % 4 = t) (h2 : inS z5 n5 (z4.getD n 0) = true) : wantL z4 z5 (n + 1) n5 t = wantL z4 z5 n n5 t ++ [z4.getD n 0 % 8] := by
  unfold wantL
  rw [List.range_succ, List.filter_append, List.map_append]
  congr 1
  rw [List.filter_cons_of_pos (by rw [h2]; simpa using h)]; rfl
theorem wantL_miss (z4 z5 : List Int) (n n5 : Nat) (t : Int) (h : ¬ (z4.getD n 0 / 16 % 4 = t ∧ inS z5 n5 (z4.getD n 0) = true)) : wantL z4 z5 (n + 1) n5 t = wantL z4 z5 n n5 t := by
  unfold wantL
  rw [List.range_succ, List.filter_append, List.map_append, List.filter_cons_of_neg (by simpa using h)]
  simp
theorem wantL_len (z4 z5 : List Int) (n n5 : Nat) (t : Int) : (wantL z4 z5 n n5 t).length ≤ n := by
  unfold wantL
  rw [List.length_map]
  exact Nat.le_trans (List.length_filter_le _ _) (by simp)
end Go.Proofs.Ybulkbpkc
