import Derived.Test.YbulkbpcaGreatTickE
namespace Go.Proofs.YbulkbpcaGreat
open Go.ChangeShapes Go.WideShapes Go.ChangeAt Go.RowKit
set_option linter.unusedVariables false
attribute [local go_sem ↓] eq_peer
attribute [local go_sem] guard_peer field_key

set_option maxRecDepth 100000 in
set_option maxHeartbeats 1000000 in
/-- The law's own 'at'. -/
theorem at_any (g n cap : Nat) (kf af : Nat → ByteArray) (i : Int) (w : World) (hg : g < w.heap.size) (hr : Rgs w g n kf af) :
    Calls Ybaz.prog 9 #[.slice (some ⟨g, 0, none⟩) n cap, .int .i64 i] w fun e w' => e = .returned (.agg #[.string (atP n kf i), .string (atP n af i)]) ∧ Below w.heap.size w w' := by
  by_cases h0 : i < 0
  · have hd : decide (i < 0) = true := decide_eq_true h0
    have HF : Hid (atP n kf i = ⟨#[]⟩ ∧ atP n af i = ⟨#[]⟩) := by constructor <;> (unfold atP; rw [if_neg (by omega)])
    go_enter Ybaz.func9, Ybaz.ntmps9
    go_wp2
    rw [HF.out.1, HF.out.2]
    exact bodyPost_ret (v := .agg #[.string ⟨#[]⟩, .string ⟨#[]⟩]) (by simp [results, Ybaz.results9, go_sem]) rfl ⟨rfl, (Below.refl _ _).alloc (Nat.le_refl _) _⟩
  · have hd : decide (i < 0) = false := decide_eq_false h0
    by_cases h1 : i < n
    · have hd1 : decide ((n : Int) ≤ i) = false := decide_eq_false (by omega)
      obtain ⟨k, rfl⟩ : ∃ k : Nat, i = k := ⟨i.toNat, by omega⟩
      obtain ⟨q0, q1⟩ := hr k (by omega)
      have HF : Hid (atP n kf k = kf k ∧ atP n af k = af k) := by constructor <;> (unfold atP; rw [if_pos (by omega)]; simp)
      have hk0 : (0 : Int) ≤ (k : Int) := by omega
      have hk7 : (k : Int) < (n : Int) := by omega
      go_enter Ybaz.func9, Ybaz.ntmps9
      go_wp2
      rw [HF.out.1, HF.out.2]
      exact bodyPost_ret (v := .agg #[.string (kf k), .string (af k)]) (by simp [results, Ybaz.results9, go_sem]) rfl ⟨rfl, (Below.refl _ _).alloc (Nat.le_refl _) _⟩
    · have hd1 : decide ((n : Int) ≤ i) = true := decide_eq_true (by omega)
      have HF : Hid (atP n kf i = ⟨#[]⟩ ∧ atP n af i = ⟨#[]⟩) := by constructor <;> (unfold atP; rw [if_neg (by omega)])
      go_enter Ybaz.func9, Ybaz.ntmps9
      go_wp2
      rw [HF.out.1, HF.out.2]
      exact bodyPost_ret (v := .agg #[.string ⟨#[]⟩, .string ⟨#[]⟩]) (by simp [results, Ybaz.results9, go_sem]) rfl ⟨rfl, (Below.refl _ _).alloc (Nat.le_refl _) _⟩

set_option maxRecDepth 100000 in
set_option maxHeartbeats 1000000 in
/-- The law's own 'passon'. -/
theorem passonL_any (gF gB gS nF nB nS capF capB capS : Nat) (fk fa bk ba sk sa : Nat → ByteArray) (w : World) (hgF : gF < w.heap.size) (hgB : gB < w.heap.size) (hgS : gS < w.heap.size) (hnF : nF ≤ 1024) (hnB : nB ≤ 1024) (hnS : nS ≤ 1024) (hF0 : 0 < nF)
    (hF : Rgs w gF nF fk fa) (hB : Rgs w gB nB bk ba) (hS : Prs w gS nS sk sa) :
    Calls Ybaz.prog 8 #[.slice (some ⟨gF, 0, none⟩) nF capF, .slice (some ⟨gB, 0, none⟩) nB capB, .slice (some ⟨gS, 0, none⟩) nS capS] w fun e w' => e = .returned (.agg #[.string (pick3 nF nB fk bk sk (passIx (nS + nF + nB))), .string (pick3 nF nB fa ba sa (passIx (nS + nF + nB)))]) ∧ Below w.heap.size w w' := by
  obtain ⟨q, hq⟩ : ∃ q, q = passIx (nS + nF + nB) := ⟨_, rfl⟩
  rw [← hq]
  have hqi : (2654435769 * ((nF : Int) + nB + nS) / 4294967296 : Int) = (q : Int) := by rw [hq]; unfold passIx; omega
  have hqt : q < nS + nF + nB := by rw [hq]; exact passIx_lt (by omega)
  clear hq
  have hq0 : (0 : Int) ≤ (q : Int) := by omega
  by_cases h1 : q < nF
  · obtain ⟨r0, r1⟩ := hF q h1
    have hq1 : (q : Int) < (nF : Int) := by omega
    have HF : Hid (pick3 nF nB fk bk sk q = fk q ∧ pick3 nF nB fa ba sa q = fa q) := by constructor <;> (unfold pick3; rw [if_pos h1])
    go_enter Ybaz.func8, Ybaz.ntmps8
    go_wp2
    rw [HF.out.1, HF.out.2]
    exact bodyPost_ret (v := .agg #[.string (fk q), .string (fa q)]) (by simp [results, Ybaz.results8, go_sem]) rfl ⟨rfl, (Below.refl _ _).alloc (Nat.le_refl _) _⟩
  · have hq1 : ¬ ((q : Int) < (nF : Int)) := by omega
    obtain ⟨q2, hq2⟩ : ∃ q2, q2 = q - nF := ⟨_, rfl⟩
    have hqs : (q : Int) - (nF : Int) = (q2 : Int) := by omega
    by_cases h2 : q2 < nB
    · obtain ⟨r0, r1⟩ := hB q2 h2
      have hq3 : (q2 : Int) < (nB : Int) := by omega
      have hq4 : (0 : Int) ≤ (q2 : Int) := by omega
      have HF : Hid (pick3 nF nB fk bk sk q = bk q2 ∧ pick3 nF nB fa ba sa q = ba q2) := by constructor <;> (unfold pick3; rw [if_neg h1, ← hq2, if_pos h2])
      clear hq2
      go_enter Ybaz.func8, Ybaz.ntmps8
      go_wp2
      rw [HF.out.1, HF.out.2]
      exact bodyPost_ret (v := .agg #[.string (bk q2), .string (ba q2)]) (by simp [results, Ybaz.results8, go_sem]) rfl ⟨rfl, (Below.refl _ _).alloc (Nat.le_refl _) _⟩
    · obtain ⟨q3, hq3⟩ : ∃ q3, q3 = q2 - nB := ⟨_, rfl⟩
      obtain ⟨r0, r1⟩ := hS q3 (by omega)
      have hqs2 : (q2 : Int) - (nB : Int) = (q3 : Int) := by omega
      have hq5 : (q3 : Int) < (nS : Int) := by omega
      have hq4 : (0 : Int) ≤ (q3 : Int) := by omega
      have hq6 : ¬ ((q2 : Int) < (nB : Int)) := by omega
      have HF : Hid (pick3 nF nB fk bk sk q = sk q3 ∧ pick3 nF nB fa ba sa q = sa q3) := by constructor <;> (unfold pick3; rw [if_neg h1, ← hq2, if_neg h2, ← hq3])
      clear hq2 hq3
      go_enter Ybaz.func8, Ybaz.ntmps8
      go_wp2
      rw [HF.out.1, HF.out.2]
      exact bodyPost_ret (v := .agg #[.string (sk q3), .string (sa q3)]) (by simp [results, Ybaz.results8, go_sem]) rfl ⟨rfl, (Below.refl _ _).alloc (Nat.le_refl _) _⟩
end Go.Proofs.YbulkbpcaGreat
