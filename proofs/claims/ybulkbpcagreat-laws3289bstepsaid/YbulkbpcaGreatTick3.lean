import Derived.Test.YbulkbpcaGreatTick2
namespace Go.Proofs.YbulkbpcaGreat
open Go.ChangeShapes Go.WideShapes Go.ChangeAt Go.RowKit
set_option linter.unusedVariables false
attribute [local go_sem ↓] eq_peer
attribute [local go_sem] guard_peer field_key

/-- A row of peers. -/
def Prs (w : World) (g n : Nat) (kf af : Nat → ByteArray) : Prop :=
  ∀ j, j < n → w.cell? ⟨g, j * 2, none⟩ = some (.string (kf j)) ∧ w.cell? ⟨g, j * 2 + 1, none⟩ = some (.string (af j))

def passIx (k : Nat) : Nat := 2654435769 * k / 4294967296
def pick3 (nF nB : Nat) (f b s : Nat → ByteArray) (i : Nat) : ByteArray := if i < nF then f i else if i - nF < nB then b (i - nF) else s (i - nF - nB)

theorem passIx_lt {k : Nat} (h : 0 < k) : passIx k < k := by
  unfold passIx
  omega

set_option maxRecDepth 100000 in
set_option maxHeartbeats 1000000 in
theorem passOn_any (N gF gB gS nF nB nS capF capB capS : Nat) (fk fa bk ba sk sa : Nat → ByteArray) (w : World) (hN : N < w.heap.size) (hgF : gF < w.heap.size) (hgB : gB < w.heap.size) (hgS : gS < w.heap.size) (hnF : nF ≤ 1024) (hnB : nB ≤ 1024) (hnS : nS ≤ 1024) (hF0 : 0 < nF)
    (c9 : w.cell? ⟨N, 9, none⟩ = some (.slice (some ⟨gS, 0, none⟩) nS capS)) (c14 : w.cell? ⟨N, 14, none⟩ = some (.int .i64 1)) (c21 : w.cell? ⟨N, 21, none⟩ = some (.slice (some ⟨gF, 0, none⟩) nF capF)) (c32 : w.cell? ⟨N, 32, none⟩ = some (.slice (some ⟨gB, 0, none⟩) nB capB))
    (hF : Rgs w gF nF fk fa) (hB : Rgs w gB nB bk ba) (hS : Prs w gS nS sk sa) :
    Calls Ybaz.prog 16 #[.pointer (some ⟨N, 0, none⟩)] w fun e w' => e = .returned (.agg #[.string (pick3 nF nB fk bk sk (passIx (nS + nF + nB))), .string (pick3 nF nB fa ba sa (passIx (nS + nF + nB)))]) ∧ Below w.heap.size w w' := by
  obtain ⟨q, hq⟩ : ∃ q, q = passIx (nS + nF + nB) := ⟨_, rfl⟩
  rw [← hq]
  have HQ : Hid (q = passIx (nS + nF + nB)) := hq
  clear hq
  go_enter Ybaz.func16, Ybaz.ntmps16
  go_wp2
  refine wp_loop_rounds 3 ?_
  rw [rounds_succ]
  go_wp2
  rw [rounds_succ]
  go_wp2
  rw [rounds_succ]
  go_wp2_with fail
  have hqi : (2654435769 * ((nS : Int) + nF + nB) / 4294967296 : Int) = (q : Int) := by rw [HQ.out]; unfold passIx; omega
  have hqt : q < nS + nF + nB := by rw [HQ.out]; exact passIx_lt (by omega)
  rw [hqi]
  clear hqi
  have hq0 : (0 : Int) ≤ (q : Int) := by omega
  refine wp_loop_rounds 3 ?_
  rw [rounds_succ]
  by_cases h1 : q < nF
  · obtain ⟨r0, r1⟩ := hF q h1
    have hq1 : (q : Int) < (nF : Int) := by omega
    have HF : Hid (pick3 nF nB fk bk sk q = fk q ∧ pick3 nF nB fa ba sa q = fa q) := by constructor <;> (unfold pick3; rw [if_pos h1])
    go_wp2
    rw [HF.out.1, HF.out.2]
    exact bodyPost_ret (v := .agg #[.string (fk q), .string (fa q)]) (by simp [results, Ybaz.results16, go_sem]) rfl ⟨rfl, (Below.refl _ _).alloc (Nat.le_refl _) _⟩
  · have hq1 : ¬ ((q : Int) < (nF : Int)) := by omega
    obtain ⟨q2, hq2⟩ : ∃ q2, q2 = q - nF := ⟨_, rfl⟩
    have hqs : (q : Int) - (nF : Int) = (q2 : Int) := by omega
    by_cases h2 : q2 < nB
    · obtain ⟨r0, r1⟩ := hB q2 h2
      have hq3 : (q2 : Int) < (nB : Int) := by omega
      have hq4 : (0 : Int) ≤ (q2 : Int) := by omega
      have HF : Hid (pick3 nF nB fk bk sk q = bk q2 ∧ pick3 nF nB fa ba sa q = ba q2) := by constructor <;> (unfold pick3; rw [if_neg h1, ← hq2, if_pos h2])
      clear hq2
      go_wp2
      rw [rounds_succ]
      go_wp2
      rw [HF.out.1, HF.out.2]
      exact bodyPost_ret (v := .agg #[.string (bk q2), .string (ba q2)]) (by simp [results, Ybaz.results16, go_sem]) rfl ⟨rfl, (Below.refl _ _).alloc (Nat.le_refl _) _⟩
    · obtain ⟨q3, hq3⟩ : ∃ q3, q3 = q2 - nB := ⟨_, rfl⟩
      obtain ⟨r0, r1⟩ := hS q3 (by omega)
      have hqs2 : (q2 : Int) - (nB : Int) = (q3 : Int) := by omega
      have hq5 : (q3 : Int) < (nS : Int) := by omega
      have hq4 : (0 : Int) ≤ (q3 : Int) := by omega
      have hq6 : ¬ ((q2 : Int) < (nB : Int)) := by omega
      have HF : Hid (pick3 nF nB fk bk sk q = sk q3 ∧ pick3 nF nB fa ba sa q = sa q3) := by constructor <;> (unfold pick3; rw [if_neg h1, ← hq2, if_neg h2, ← hq3])
      clear hq2 hq3
      go_wp2
      rw [rounds_succ]
      go_wp2
      rw [rounds_succ]
      go_wp2
      rw [HF.out.1, HF.out.2]
      exact bodyPost_ret (v := .agg #[.string (sk q3), .string (sa q3)]) (by simp [results, Ybaz.results16, go_sem]) rfl ⟨rfl, (Below.refl _ _).alloc (Nat.le_refl _) _⟩
end Go.Proofs.YbulkbpcaGreat
