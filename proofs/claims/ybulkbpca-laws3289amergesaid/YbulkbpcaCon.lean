import Derived.Test.YbulkbpcaFar
import Derived.Laws.IdiomCopy
import Derived.LoopTactic
namespace Go.Proofs.Ybulkbpca
open Go.ChangeShapes Go.WideShapes Go.ChangeAt Go.RowKit
set_option linter.unusedVariables false
attribute [local go_sem ↓] Go.wp_at_zero Go.wp_at_succ

set_option maxRecDepth 100000 in
set_option maxHeartbeats 1000000 in
/-- merge's closure: is the contact's id the message's? -/
theorem merge1_any (a b : ByteArray) (v t d id : Int) (M : Nat) (w : World) (hM : M < w.heap.size) (hid : w.cell? ⟨M, 8, none⟩ = some (.int .u64 id)) :
    Calls Yba.prog 10 #[.agg #[.string a, .string b, .int .u64 v, .int .i64 t, .int .i64 d], .pointer (some ⟨M, 0, none⟩)] w fun e w' => e = .returned (.bool (decide (v = id))) ∧ w' = w.alloc (.cells #[.string a, .string b, .int .u64 v, .int .i64 t, .int .i64 d] 61) := by
  go_enter Yba.func10, Yba.ntmps10
  go_wp2
  go_ret
  exact ⟨rfl, rfl⟩

/-- The contacts' row: n contacts, the i-th of id 'e i' and tries 't i'. -/
def conV (v t : Int) (j : Nat) : Value := if j = 0 then .string ⟨#[99]⟩ else if j = 1 then .string ⟨#[]⟩ else if j = 2 then .int .u64 v else if j = 3 then .int .i64 t else .int .i64 0
def conA (v t : Int) : Array Value := #[.string ⟨#[99]⟩, .string ⟨#[]⟩, .int .u64 v, .int .i64 t, .int .i64 0]
structure Con (w : World) (g i : Nat) (v t : Int) : Prop where
  c0 : w.cell? ⟨g, i * 5, none⟩ = some (.string ⟨#[99]⟩)
  c1 : w.cell? ⟨g, i * 5 + 1, none⟩ = some (.string ⟨#[]⟩)
  c2 : w.cell? ⟨g, i * 5 + 2, none⟩ = some (.int .u64 v)
  c3 : w.cell? ⟨g, i * 5 + 3, none⟩ = some (.int .i64 t)
  c4 : w.cell? ⟨g, i * 5 + 4, none⟩ = some (.int .i64 0)

theorem Con.below {w w' : World} {g i B : Nat} {v t : Int} (h : Con w g i v t) (hb : Below B w w') (hg : g < B) : Con w' g i v t :=
  ⟨(hb.cell (p := ⟨g, i * 5, none⟩) hg).trans h.c0, (hb.cell (p := ⟨g, i * 5 + 1, none⟩) hg).trans h.c1, (hb.cell (p := ⟨g, i * 5 + 2, none⟩) hg).trans h.c2, (hb.cell (p := ⟨g, i * 5 + 3, none⟩) hg).trans h.c3, (hb.cell (p := ⟨g, i * 5 + 4, none⟩) hg).trans h.c4⟩

set_option maxRecDepth 100000 in
set_option maxHeartbeats 1000000 in
theorem index_any (vs ts : Nat → Int) (n cap g M : Nat) (id : Int) (w : World) (hn : n ≤ 1024) (hg : g < w.heap.size) (hM : M < w.heap.size) (hid : w.cell? ⟨M, 8, none⟩ = some (.int .u64 id)) (hc : ∀ i, i < n → Con w g i (vs i) (ts i)) :
    Calls Yba.prog 16 #[.slice (some ⟨g, 0, none⟩) n cap, .func (.func 10) #[] #[.pointer (some ⟨M, 0, none⟩)]] w fun e w' => (∃ r : Int, e = .returned (.int .i64 r) ∧ ((r = -1 ∧ ∀ j, j < n → vs j ≠ id) ∨ ∃ i : Nat, r = i ∧ i < n ∧ vs i = id ∧ ∀ j, j < i → vs j ≠ id)) ∧ Below w.heap.size w w' := by
  go_enter Yba.func16, Yba.ntmps16
  go_wp2
  go_loopw [8] (fun i wr => ∃ k : Nat, k ≤ n ∧ i = .int .i64 k ∧ (∀ j, j < k → vs j ≠ id) ∧ Below w.heap.size w wr) (fun i _ => n - (intOf i).toNat)
  case atStart => exact ⟨0, by omega, rfl, fun j hj => by omega, Below.refl _ _⟩
  case round =>
    obtain ⟨k, hk, rfl, hne, hB⟩ := hrel
    by_cases hlt : k < n
    · obtain ⟨c0, c1, c2, c3, c4⟩ := (hc k hlt).below hB hg
      have hid2 := (hB.cell (p := ⟨M, 8, none⟩) hM).trans hid
      obtain ⟨v, hv⟩ : ∃ v, v = vs k := ⟨_, rfl⟩
      obtain ⟨t, ht⟩ : ∃ t, t = ts k := ⟨_, rfl⟩
      rw [← hv] at c2
      rw [← ht] at c3
      have HV : Hid (v = vs k) := hv
      have HN : Hid _ := hne
      have hk0 : (0 : Int) ≤ (k : Int) := by omega
      have hk7 : (k : Int) < (n : Int) := by omega
      clear hv ht hc hid hne
      go_wp2_with fail
      refine (merge1_any _ _ _ _ _ id M wr (by have := hB.size; omega) hid2).mono ?_
      rintro e w2 ⟨rfl, hw2⟩
      have hB2 : Below w.heap.size w w2 := by rw [hw2]; exact hB.alloc hB.size _
      clear hw2
      by_cases hvi : v = id
      · subst hvi
        go_wp2
        go_ret
        exact ⟨⟨_, rfl, .inr ⟨k, rfl, hlt, HV.out.symm, HN.out⟩⟩, hB2⟩
      · go_wp2
        go_roundw
        case rel => exact ⟨k + 1, by omega, by go_num, fun j hj => by
                    rcases (show j < k ∨ j = k by omega) with h | rfl
                    · exact HN.out j h
                    · rw [← HV.out]; exact hvi, hB2⟩
        case measure => simp [intOf]; omega
    · obtain rfl : k = n := by omega
      have HN : Hid _ := hne
      clear hne
      go_wp2
      go_ret
      exact ⟨⟨_, rfl, .inl ⟨rfl, HN.out⟩⟩, hB⟩
end Go.Proofs.Ybulkbpca
