import Derived.Test.YbulkbpdqGreatMoves
namespace Go.Proofs.YbulkbpdqGreat
open Go.ChangeShapes Go.WideShapes Go.ChangeAt Go.RowKit
set_option linter.unusedVariables false

theorem St.kept {E : Env} (W : E.Wf) {s : Sta} {w w' : World} (h : St E s w) {P : Nat → Prop} (hK : Kp P w w') (hl : ∀ l, E.ok l → ¬ P (E.ad l)) (h1 : ∀ b, (s.c 206).ownBlock = some b → ¬ P b) (h2 : ∀ b, (s.c 11).ownBlock = some b → ¬ P b) : St E s w' := by
  obtain ⟨ms, hm⟩ := h.mo
  exact ⟨fun l hl' => (h.loc l hl').block (hK.block _ (h.lt W hl') (hl l hl')), h.sch, owns_kept h.hp hK h1, ⟨ms, owns_kept hm hK h2⟩, h.sep, h.ix, Nat.le_trans h.sz hK.size⟩
theorem St.alloc {E : Env} (W : E.Wf) {s : Sta} {w : World} (h : St E s w) (o : Obj) : St E s (w.alloc o) := h.kept W (P := fun _ => False) ((Kp.refl _ w).alloc o) (fun _ _ h => h) (fun _ _ h => h) (fun _ _ h => h)
theorem St.drew {E : Env} {s : Sta} {w : World} (h : St E s w) : St E s w.drew := by
  obtain ⟨ms, hm⟩ := h.mo
  exact ⟨fun l hl => (h.loc l hl).block rfl, h.sch, h.hp, ⟨ms, hm⟩, h.sep, h.ix, h.sz⟩
theorem St.below {E : Env} (W : E.Wf) {s : Sta} {w w' : World} (h : St E s w) (hb : Below w.heap.size w w') : St E s w' := h.kept W (P := fun _ => False) (Kp.of_below hb) (fun _ _ h => h) (fun _ _ h => h) (fun _ _ h => h)

/-- The list of candidates is what their marks say. -/
structure LInv (E : Env) (s : Sta) : Prop where
  nd : s.L.Nodup
  cd : ∀ r, r < E.n → (r ∈ s.L ↔ s.cd r = true)

theorem nodup_len : ∀ (n : Nat) (l : List Nat), l.Nodup → (∀ k ∈ l, k < n) → l.length ≤ n
  | 0, l, _, h => by
    cases l with
    | nil => simp
    | cons a l => exact absurd (h a (by simp)) (by omega)
  | n + 1, l, hn, h => by
    have h1 := nodup_len n (l.erase n) (hn.erase n) (fun k hk => by
      have h2 := h k (List.mem_of_mem_erase hk)
      have h3 : k ≠ n := fun e => by subst e; exact hn.not_mem_erase hk
      omega)
    by_cases hm : n ∈ l
    · rw [List.length_erase_of_mem hm] at h1; omega
    · rw [List.erase_of_not_mem hm] at h1; omega

theorem LInv.cand {E : Env} {s s' : Sta} {k : Nat} (hk : k < E.n) (h : LInv E s) (hc : Cand s k s') : LInv E s' ∧ s'.cd = setB s.cd k true := by
  rcases hc with ⟨h1, rfl⟩ | ⟨h1, V, L, hp, rfl⟩
  · refine ⟨h, funext fun j => ?_⟩
    unfold setB
    split
    · next e => rw [e, h1]
    · rfl
  · refine ⟨⟨hp.nodup_iff.2 (List.nodup_append.2 ⟨h.nd, by simp, fun a ha b hb => ?_⟩), fun r hr => ?_⟩, rfl⟩
    · simp at hb; subst hb
      intro e; subst e
      have := (h.cd a hk).1 ha
      rw [h1] at this; cases this
    · show r ∈ L ↔ setB s.cd k true r = true
      rw [hp.mem_iff, List.mem_append, h.cd r hr]
      unfold setB
      by_cases e : r = k
      · simp [e]
      · simp [e]

/-- What a state is, of the transactions that stand. -/
structure Shape (E : Env) (og : Nat → ByteArray) (s : Sta) : Prop where
  wr : ∀ k, k < E.n → s.wr k = s.ow k
  ve : ∀ k, k < E.n → s.ve k = !s.ow k
  ph : ∀ k, k < E.n → s.ph k = if s.ow k then og k else ⟨#[116, 101, 114, 109, 105, 110, 97, 116, 101, 100]⟩
  rd : ∀ k, k < E.n → s.rd k = (s.ow k && (E.src k).isSome)
  rl : ∀ k, k < E.n → s.rl k = if s.ow k then (E.src k).map s.ow else none
  it : ∀ k, k < E.n → s.it k = (s.ow k || !bare E s k)
  li : LInv E s

/-- The readers of item k have aged, and are candidates. -/
structure Aged (E : Env) (k : Nat) (s1 s2 : Sta) : Prop where
  ph : s2.ph = s1.ph
  rd : s2.rd = s1.rd
  wr : s2.wr = s1.wr
  ow : s2.ow = s1.ow
  it : s2.it = s1.it
  ve : s2.ve = s1.ve
  m : s2.m = s1.m
  c : ∀ j, j ≠ 206 → s2.c j = s1.c j
  li : LInv E s2
  up : ∀ r, r < E.n → s1.cd r = true → s2.cd r = true
  cd : ∀ r, r < E.n → s2.cd r = true → s1.cd r = true ∨ (E.src r = some k ∧ s1.rl r = some true)
  rl : ∀ r, r < E.n → s2.rl r = s1.rl r ∨ (E.src r = some k ∧ s1.rl r = some true ∧ s2.rl r = some false ∧ s2.cd r = true)

theorem Aged.refl {E : Env} {k : Nat} {s : Sta} (h : LInv E s) : Aged E k s s := ⟨rfl, rfl, rfl, rfl, rfl, rfl, rfl, fun _ _ => rfl, h, fun _ _ h => h, fun _ _ h => .inl h, fun _ _ => .inl rfl⟩

theorem Aged.step {E : Env} {k r : Nat} {s1 s2 s4 : Sta} (h : Aged E k s1 s2) (hr : r < E.n) (hs : E.src r = some k) (hl : s2.rl r = some true) (hc : Cand { s2 with rl := setO s2.rl r (some false) } r s4) : Aged E k s1 s4 := by
  have hl1 : s1.rl r = some true := by
    rcases h.rl r hr with e | ⟨_, _, e, _⟩
    · rw [← e]; exact hl
    · rw [e] at hl; cases hl
  have hi : LInv E { s2 with rl := setO s2.rl r (some false) } := ⟨h.li.nd, h.li.cd⟩
  obtain ⟨hi4, hcd4⟩ := hi.cand hr hc
  have hf : s4.ph = s2.ph ∧ s4.rd = s2.rd ∧ s4.wr = s2.wr ∧ s4.ow = s2.ow ∧ s4.it = s2.it ∧ s4.ve = s2.ve ∧ s4.m = s2.m ∧ (∀ j, j ≠ 206 → s4.c j = s2.c j) ∧ s4.rl = setO s2.rl r (some false) := by
    rcases hc with ⟨_, rfl⟩ | ⟨_, V, L, _, rfl⟩
    · exact ⟨rfl, rfl, rfl, rfl, rfl, rfl, rfl, fun _ _ => rfl, rfl⟩
    · exact ⟨rfl, rfl, rfl, rfl, rfl, rfl, rfl, fun j hj => upd_other _ _ hj, rfl⟩
  obtain ⟨f1, f2, f3, f4, f5, f6, f7, f8, f9⟩ := hf
  have hcd : s4.cd = setB s2.cd r true := hcd4
  refine ⟨f1.trans h.ph, f2.trans h.rd, f3.trans h.wr, f4.trans h.ow, f5.trans h.it, f6.trans h.ve, f7.trans h.m, fun j hj => (f8 j hj).trans (h.c j hj), hi4, fun i hi' hc1 => ?_, fun i hi' hc4 => ?_, fun i hi' => ?_⟩
  · rw [hcd]; unfold setB; split
    · rfl
    · exact h.up i hi' hc1
  · rw [hcd] at hc4
    unfold setB at hc4
    split at hc4
    · next e => subst e; exact .inr ⟨hs, hl1⟩
    · exact h.cd i hi' hc4
  · rw [f9, hcd]
    unfold setO setB
    by_cases e : i = r
    · subst e; exact .inr ⟨hs, hl1, by simp, by simp⟩
    · simp only [e, if_false]; exact h.rl i hi'
end Go.Proofs.YbulkbpdqGreat
