import Derived.Test.YbulkbpdqGreatInv
namespace Go.Proofs.YbulkbpdqGreat
open Go.ChangeShapes Go.WideShapes Go.ChangeAt Go.RowKit
set_option linter.unusedVariables false

/-- k can be marked over the marks t. -/
def Can (E : Env) (og : Nat → ByteArray) (t : Nat → Bool) (k : Nat) : Prop := og k = comB ∧ ∀ j, E.src k = some j → t j = true
def cnt (n : Nat) (t : Nat → Bool) : Nat := ((List.range n).filter t).length

theorem cnt_le (n : Nat) (t : Nat → Bool) : cnt n t ≤ n := Nat.le_trans (List.length_filter_le _ _) (by simp)
theorem cnt_set (t : Nat → Bool) (k : Nat) (hk : t k = false) : ∀ n, k < n → cnt n (setB t k true) = cnt n t + 1 := fun n hn => by
  have h1 := filter_set (setB t k true) k (by simp [setB]) n hn
  have h2 : setB (setB t k true) k false = t := funext fun j => by
    unfold setB
    by_cases e : j = k
    · subst e; simp [hk]
    · simp [e]
  rw [h2] at h1
  unfold cnt
  omega
theorem cnt_zero (n : Nat) : cnt n (fun _ => false) = 0 := by simp [cnt]

/-- Behind r whole rounds. -/
structure Rnd (E : Env) (og : Nat → ByteArray) (r : Nat) (t : Nat → Bool) : Prop where
  so : ∀ k, k < E.n → t k = true → Lf E og k
  cl : (∀ k, k < E.n → Can E og t k → t k = true) ∨ r ≤ cnt E.n t

/-- Within a round that began at t0, behind k of its steps. -/
structure Mid (E : Env) (og : Nat → ByteArray) (t0 : Nat → Bool) (k : Nat) (t : Nat → Bool) : Prop where
  so : ∀ i, i < E.n → t i = true → Lf E og i
  cl : (t = t0 ∧ ∀ i, i < k → Can E og t0 i → t0 i = true) ∨ cnt E.n t0 < cnt E.n t

theorem Rnd.zero (E : Env) (og : Nat → ByteArray) : Rnd E og 0 (fun _ => false) := ⟨fun k _ h => by simp at h, .inr (Nat.zero_le _)⟩
theorem Rnd.mid {E : Env} {og : Nat → ByteArray} {r : Nat} {t : Nat → Bool} (h : Rnd E og r t) : Mid E og t 0 t := ⟨h.so, .inl ⟨rfl, fun i hi => by omega⟩⟩

theorem Mid.mark {E : Env} (W : E.Wf) {og : Nat → ByteArray} {t0 t : Nat → Bool} {k : Nat} (h : Mid E og t0 k t) (hk : k < E.n) (hf : t k = false) (hc : Can E og t k) : Mid E og t0 (k + 1) (setB t k true) := by
  refine ⟨fun i hi h1 => ?_, .inr ?_⟩
  · unfold setB at h1
    by_cases e : i = k
    · subst e
      cases hs : E.src i with
      | none => exact .base i hc.1 hs
      | some j => exact .step i j hc.1 hs (h.so j (W.src i j hi hs) (hc.2 j hs))
    · simp only [e, if_false] at h1; exact h.so i hi h1
  · rw [cnt_set t k hf E.n hk]
    rcases h.cl with ⟨rfl, _⟩ | h1
    · omega
    · omega
theorem Mid.pass {E : Env} {og : Nat → ByteArray} {t0 t : Nat → Bool} {k : Nat} (h : Mid E og t0 k t) (hp : t k = true ∨ ¬ Can E og t k) : Mid E og t0 (k + 1) t := by
  refine ⟨h.so, ?_⟩
  rcases h.cl with ⟨rfl, h2⟩ | h1
  · refine .inl ⟨rfl, fun i hi hc => ?_⟩
    by_cases e : i = k
    · subst e
      rcases hp with hp | hp
      · exact hp
      · exact absurd hc hp
    · exact h2 i (by omega) hc
  · exact .inr h1

theorem cnt_mono {t t' : Nat → Bool} : ∀ n, (∀ i, i < n → t i = true → t' i = true) → cnt n t ≤ cnt n t'
  | 0, _ => by simp [cnt]
  | n + 1, h => by
    have h1 := cnt_mono n (fun i hi => h i (by omega))
    unfold cnt at h1 ⊢
    rw [List.range_succ, List.filter_append, List.filter_append, List.length_append, List.length_append]
    have h2 : ([n].filter t).length ≤ ([n].filter t').length := by
      cases hb : t n with
      | false => simp [List.filter, hb]
      | true => simp [List.filter, hb, h n (by omega) hb]
    omega

theorem Lf.mem {E : Env} (W : E.Wf) {og : Nat → ByteArray} {t : Nat → Bool} (hcl : ∀ k, k < E.n → Can E og t k → t k = true) {i : Nat} (hl : Lf E og i) : i < E.n → t i = true := by
  induction hl with
  | base k hc hs => exact fun hi => hcl k hi ⟨hc, fun j hj => by rw [hs] at hj; cases hj⟩
  | step k j hc hs hj ih => exact fun hi => hcl k hi ⟨hc, fun j' hj' => by rw [hs] at hj'; cases hj'; exact ih (W.src k j hi hs)⟩

theorem Mid.rnd {E : Env} (W : E.Wf) {og : Nat → ByteArray} {r : Nat} {t0 t : Nat → Bool} (h0 : Rnd E og r t0) (h : Mid E og t0 E.n t) : Rnd E og (r + 1) t := by
  refine ⟨h.so, ?_⟩
  rcases h.cl with ⟨rfl, h2⟩ | h1
  · exact .inl h2
  · rcases h0.cl with h2 | h2
    · have := cnt_mono (t := t) (t' := t0) E.n (fun i hi ht => (h.so i hi ht).mem W h2 hi)
      omega
    · exact .inr (by omega)

/-- What the marks are in the end. -/
theorem Rnd.fin {E : Env} (W : E.Wf) {og : Nat → ByteArray} {s : Sta} {t : Nat → Bool} (h : Rnd E og (E.n + 1) t) (hI : Inv E og s) (hL : s.L = []) : ∀ k, k < E.n → t k = !s.ow k := fun k hk => by
  have hcl : ∀ k, k < E.n → Can E og t k → t k = true := by
    rcases h.cl with h1 | h1
    · exact h1
    · have := cnt_le E.n t; omega
  have hcd : ∀ k, k < E.n → s.cd k = false := fun k hk => by
    cases hc : s.cd k with
    | false => rfl
    | true =>
      have := (hI.sh.li.cd k hk).2 hc
      rw [hL] at this; cases this
  cases ho : s.ow k with
  | false => exact (hI.so k hk ho).mem W hcl hk
  | true =>
    cases ht : t k with
    | false => rfl
    | true =>
      exfalso
      have hl := h.so k hk ht
      have : s.ow k = false := by
        have hm := hl.mem W (t := fun i => !s.ow i) (fun i hi hc => by
          cases hoi : s.ow i with
          | false => rfl
          | true =>
            exfalso
            have := hI.co i hi hoi hc.1 (fun j hj => by have := hc.2 j hj; simpa using this)
            rw [hcd i hi] at this; cases this) hk
        simpa using hm
      rw [ho] at this; cases this
end Go.Proofs.YbulkbpdqGreat
