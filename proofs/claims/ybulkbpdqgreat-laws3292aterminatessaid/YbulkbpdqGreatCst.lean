import Derived.Test.YbulkbpdqGreatForget
namespace Go.Proofs.YbulkbpdqGreat
open Go.ChangeShapes Go.WideShapes Go.ChangeAt Go.RowKit
set_option linter.unusedVariables false

theorem perm_of_map {α β : Type} (f : α → β) {l l2 : List β} (h : l.Perm l2) : ∀ m : List α, l2 = m.map f → ∃ m' : List α, l = m'.map f ∧ m'.Perm m := by
  induction h with
  | nil => intro m hm; cases m with
    | nil => exact ⟨[], rfl, List.Perm.refl _⟩
    | cons a m => simp at hm
  | cons x h ih =>
    intro m hm
    cases m with
    | nil => simp at hm
    | cons a m =>
      simp at hm
      obtain ⟨m', h1, h2⟩ := ih m hm.2
      exact ⟨a :: m', by simp [hm.1, h1], h2.cons a⟩
  | swap x y l =>
    intro m hm
    match m, hm with
    | a :: b :: m, hm =>
      simp at hm
      exact ⟨b :: a :: m, by simp [hm.1, hm.2.1, hm.2.2], List.Perm.swap _ _ _⟩
    | [a], hm => simp at hm
    | [], hm => simp at hm
  | trans h1 h2 ih1 ih2 =>
    intro m hm
    obtain ⟨m2, e2, p2⟩ := ih2 m hm
    obtain ⟨m1, e1, p1⟩ := ih1 m2 e2
    exact ⟨m1, e1, p1.trans p2⟩

theorem St.hs {E : Env} (W : E.Wf) {s : Sta} {w : World} (h : St E s w) : HS w E.B (E.ad .sch) s.c (s.L.map fun k => E.ad (.tx k)) := by
  refine ⟨h.loc .sch trivial, by simpa [List.map_map, Function.comp_def] using h.hp, fun b hb => ?_, W.lt .sch trivial, h.sz⟩
  obtain ⟨k, hk, rfl⟩ := List.mem_map.1 hb
  have hkn := h.ix k hk
  have ht : Blk w (E.ad (.tx k)) 19 (txOf E s k) := (h.loc (.tx k) hkn).1
  exact ⟨W.lt (.tx k) hkn, ht.1 0 (by omega), E.age k, ht.1 13 (by omega)⟩

/-- What 'candidate' makes of a state. -/
def Cand (s : Sta) (k : Nat) (s' : Sta) : Prop :=
  (s.cd k = true ∧ s' = s) ∨ (s.cd k = false ∧ ∃ V L, L.Perm (s.L ++ [k]) ∧ s' = { s with cd := setB s.cd k true, L := L, c := upd s.c 206 V })

theorem upd_other (c : Nat → Value) {i j : Nat} (v : Value) (h : j ≠ i) : upd c i v j = c j := if_neg h
theorem upd_same (c : Nat → Value) (i : Nat) (v : Value) : upd c i v i = v := if_pos rfl

theorem SchOk.upd {E : Env} {c : Nat → Value} (h : SchOk E c) {i : Nat} (v : Value) (hi : i ≠ 2 ∧ i ≠ 3 ∧ i ≠ 4 ∧ i ≠ 5 ∧ i ≠ 7 ∧ i ≠ 208) : SchOk E (upd c i v) :=
  ⟨(upd_other c v (by omega)).trans h.c2, (upd_other c v (by omega)).trans h.c3, (upd_other c v (by omega)).trans h.c4, (upd_other c v (by omega)).trans h.c5, (upd_other c v (by omega)).trans h.c7, (upd_other c v (by omega)).trans h.c208⟩

theorem txC_cand (age : Int) (ph : ByteArray) (rd wr : Value) (cd b : Bool) : ∀ j, j < 19 → upd (txC age ph rd wr cd) 17 (.bool b) j = txC age ph rd wr b j := fun j hj => by
  unfold upd txC
  by_cases h : j = 17
  · subst h; simp
  · simp [h]

theorem cand_any (E : Env) (W : E.Wf) (s : Sta) (k : Nat) (hk : k < E.n) (hl : s.L.length ≤ 1000) (w : World) (h : St E s w) :
    Calls Ybaz.prog 10 #[ptr (E.ad .sch), ptr (E.ad (.tx k))] w fun e w' => e = .returned (.tuple #[]) ∧ ∃ s', Cand s k s' ∧ St E s' w' ∧ Kp (fun b => b = E.ad .sch ∨ b = E.ad (.tx k) ∨ (s.c 206).ownBlock = some b) w w' ∧ Moved w (s.c 206) (s'.c 206) := by
  have ht : Blk w (E.ad (.tx k)) 19 (txOf E s k) := (h.loc (.tx k) hk).1
  cases hc : s.cd k with
  | true =>
    refine (cand_old (E.ad .sch) (E.ad (.tx k)) w ((ht.1 17 (by omega)).trans (by simp [txOf, txC, hc]))).mono ?_
    rintro e w' ⟨rfl, rfl⟩
    exact ⟨rfl, s, .inl ⟨hc, rfl⟩, h, Kp.refl _ _, .inl rfl⟩
  | false =>
    have hne : E.ad (.tx k) ≠ E.ad .sch := fun e => by have := W.inj _ _ (show E.ok (.tx k) from hk) (show E.ok .sch from trivial) e; cases this
    refine (cand_new E.B (E.ad .sch) (E.ad (.tx k)) s.c (txOf E s k) _ w (h.hs W) ht (W.lt (.tx k) hk) hne rfl (E.age k) rfl (by simp [txOf, txC, hc]) (h.loc (.tx k) hk).2 (by simpa using hl)).mono ?_
    rintro e w' ⟨rfl, V, Lb, hp, hS, ⟨ht', hr'⟩, hK, hM⟩
    obtain ⟨L, rfl, hL⟩ := perm_of_map (fun k => E.ad (.tx k)) hp (s.L ++ [k]) (by simp)
    obtain ⟨ms, hm⟩ := h.mo
    have hsep : ∀ b, V.ownBlock = some b → (s.c 11).ownBlock = some b → False := fun b h1 h2 => by
      rcases hM with e | ⟨g, e1, e2⟩
      · exact h.sep b (by rw [← e]; exact h1) h2
      · rw [h1] at e1; cases e1
        have := (hm.lt b h2).2; omega
    refine ⟨rfl, _, .inr ⟨hc, V, L, hL, rfl⟩, ⟨h.locs W hK (fun l => l = .sch ∨ l = .tx k) (fun l hl e => ?_) (fun l hl hx hh => ?_) (fun l hl hx => ?_), h.sch.upd V (by omega), ?_, ⟨ms, owns_kept hm hK (fun b hb e => ?_)⟩, ?_, fun j hj => ?_, hS.sz⟩, hK, ?_⟩
    · rcases e with e | e | e
      · exact .inl (W.inj _ _ hl trivial e)
      · exact .inr (W.inj _ _ hl hk e)
      · have := (h.hp.lt _ e).1; have := W.lt l hl; omega
    · cases l with
      | tx j =>
        have hjk : j ≠ k := fun e => hx (.inr (by rw [e]))
        refine ⟨hh.1.congr fun i hi => ?_, hh.2⟩
        simp [txOf, setB, hjk]
      | sch => exact absurd (.inl rfl) hx
      | mi => exact hh
      | mv => exact hh
      | im k => exact hh
      | mr k => exact hh
      | rs k => exact hh
      | ws k => exact hh
    · rcases hx with rfl | rfl
      · exact hS.blk
      · refine ⟨ht'.congr fun i hi => ?_, ?_⟩
        · show upd (txC _ _ _ _ _) 17 (.bool true) i = _
          rw [txC_cand _ _ _ _ _ _ i hi]; simp [txOf, setB]
        · exact hr'
    · have := hS.row
      simpa [List.map_map, Function.comp_def] using this
    · rcases e with e | e | e
      · have := (hm.lt b hb).1; have := W.lt .sch trivial; omega
      · have := (hm.lt b hb).1; have := W.lt (.tx k) hk; omega
      · exact h.sep b e hb
    · intro b h1 h2
      exact hsep b h1 (by rw [← upd_other s.c V (show (11 : Nat) ≠ 206 by omega)]; exact h2)
    · rcases List.mem_append.1 (hL.mem_iff.1 hj) with hj | hj
      · exact h.ix j hj
      · simp at hj; subst hj; exact hk
    · show Moved w (s.c 206) (upd s.c 206 V 206)
      rw [upd_same]; exact hM
end Go.Proofs.YbulkbpdqGreat
