import Derived.Test.YbulkbpdqGreatSetA
namespace Go.Proofs.YbulkbpdqGreat
open Go.ChangeShapes Go.WideShapes Go.ChangeAt Go.RowKit
set_option linter.unusedVariables false

def Drawn.b3 (D : Drawn) : Nat := D.b2 + 4 * D.n
/-- How many of the first k read. -/
def rsN (D : Drawn) (k : Nat) : Nat := cnt k (fun i => (D.src i).isSome)
def adOf (D : Drawn) (R : Nat → Nat) (N MI MV : Nat) : Loc → Nat
  | .sch => N | .mi => MI | .mv => MV
  | .tx k => D.b1 + k | .im k => D.b2 + 4 * k + 2 | .mr k => R k | .ws k => D.b2 + 4 * k + 3 | .rs k => D.b3 + rsN D k
def envOf (D : Drawn) (R : Nat → Nat) (N MI MV : Nat) (ag : Bool) : Env := ⟨D.n, D.b3 + rsN D D.n, adOf D R N MI MV, D.src, D.age, nmB, stB ag⟩

theorem rsN_lt (D : Drawn) {k : Nat} (hs : (D.src k).isSome = true) : ∀ {m : Nat}, k < m → rsN D k < rsN D m := by
  intro m hm
  have h1 : rsN D (k + 1) = rsN D k + 1 := by unfold rsN; rw [cnt_step, if_pos hs]
  have h2 : ∀ d, rsN D (k + 1) ≤ rsN D (k + 1 + d) := by
    intro d
    induction d with
    | zero => exact Nat.le_refl _
    | succ d ih =>
      refine Nat.le_trans ih ?_
      unfold rsN
      rw [show k + 1 + (d + 1) = (k + 1 + d) + 1 from by omega, cnt_step]
      omega
  have := h2 (m - (k + 1))
  rw [show k + 1 + (m - (k + 1)) = m from by omega] at this
  omega

theorem env_wf (D : Drawn) (R : Nat → Nat) (N MI MV : Nat) (ag : Bool) (hn : D.n ≤ 300) (hsrc : ∀ k j, k < D.n → D.src k = some j → j < D.n) (hR : ∀ i, i < D.n → D.b2 + 4 * i ≤ R i ∧ R i ≤ D.b2 + 4 * i + 1) (hlt : N < D.b1 ∧ MI < D.b1 ∧ MV < D.b1) (hne : N ≠ MI ∧ MV ≠ MI ∧ N ≠ MV) : (envOf D R N MI MV ag).Wf := by
  have hb2 : D.b2 = D.b1 + D.n + 1 := rfl
  have hb3 : D.b3 = D.b2 + 4 * D.n := rfl
  refine ⟨fun l l' hl hl' e => ?_, fun l hl => ?_, hsrc, fun k j hk hj e => nmB_inj (Nat.lt_of_lt_of_le hk hn) (Nat.lt_of_lt_of_le hj hn) e, hn⟩
  · cases l <;> cases l' <;> simp only [envOf, adOf, Env.ok] at e hl hl' ⊢ <;> first
      | rfl
      | (exfalso; omega)
      | (exfalso; have := hR _ hl; omega)
      | (exfalso; have := hR _ hl'; omega)
      | (congr 1; omega)
      | (congr 1; have := hR _ hl; have := hR _ hl'; omega)
      | (exfalso; have := hR _ hl; have := hl'.1; omega)
      | (exfalso; have := hR _ hl'; have := hl.1; omega)
      | skip
    next a b =>
      congr 1
      rcases Nat.lt_trichotomy a b with h | h | h
      · have := rsN_lt D (Option.isSome_iff_ne_none.2 hl.2) h; omega
      · exact h
      · have := rsN_lt D (Option.isSome_iff_ne_none.2 hl'.2) h; omega
  · cases l <;> simp only [envOf, adOf, Env.ok] at hl ⊢ <;> first
      | omega
      | (have := hR _ hl; omega)
      | (have := rsN_lt D (Option.isSome_iff_ne_none.2 hl.2) hl.1; omega)
end Go.Proofs.YbulkbpdqGreat
