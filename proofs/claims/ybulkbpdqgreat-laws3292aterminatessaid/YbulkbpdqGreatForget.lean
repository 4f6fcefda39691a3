import Derived.Test.YbulkbpdqGreatSt
namespace Go.Proofs.YbulkbpdqGreat
open Go.ChangeShapes Go.WideShapes Go.ChangeAt Go.RowKit
set_option linter.unusedVariables false

theorem zero52 (w : World) : (zeroValue 52).run Ybaz.prog w = .ok (.pointer none) w := by kernel_rfl
theorem zero36 (w : World) : (zeroValue 36).run Ybaz.prog w = .ok (.int .u64 0) w := by kernel_rfl
theorem zero80 (w : World) : (zeroValue 80).run Ybaz.prog w = .ok (.string ⟨#[]⟩) w := by kernel_rfl

/-- The items' map alone is turned. -/
theorem St.items {E : Env} (W : E.Wf) {s : Sta} {w w' : World} (h : St E s w) (it : Nat → Bool) (hK : Kp (fun b => b = E.ad .mi) w w') (hi : ∃ F, MapF Value.string w' (E.ad .mi) F ∧ ItF E { s with it := it } F) : St E { s with it := it } w' := by
  refine ⟨h.locs W hK (fun l => l = .mi) (fun l hl e => W.inj _ _ hl trivial e) (fun l hl hx hh => ?_) (fun l hl hx => by subst hx; exact hi), h.sch, owns_kept h.hp hK (fun b hb e => ?_), ?_, h.sep, h.ix, Nat.le_trans h.sz hK.size⟩
  · cases l <;> first | exact hh | exact absurd rfl hx
  · have := (h.hp.lt b hb).1; have := W.lt .mi trivial; omega
  · obtain ⟨ms, hm⟩ := h.mo
    exact ⟨ms, owns_kept hm hK (fun b hb e => by have := (hm.lt b hb).1; have := W.lt .mi trivial; omega)⟩

set_option maxRecDepth 100000 in
set_option maxHeartbeats 1000000 in
theorem forget_any (E : Env) (W : E.Wf) (s : Sta) (k : Nat) (hk : k < E.n) (w : World) (h : St E s w) :
    Calls Ybaz.prog 47 #[ptr (E.ad .sch), ptr (E.ad (.im k))] w fun e w' => e = .returned (.tuple #[]) ∧ St E (s.forget E k) w' ∧ Kp (fun b => b = E.ad .mi) w w' := by
  have hI : Blk w (E.ad (.im k)) 3 (imOf E s k) := h.loc (.im k) hk
  have hN : Blk w (E.ad .sch) 209 s.c := h.loc .sch trivial
  have i0 : w.cell? ⟨E.ad (.im k), 0, none⟩ = some (.string (E.nm k)) := hI.1 0 (by omega)
  have i1 : w.cell? ⟨E.ad (.im k), 1, none⟩ = some (opt (s.ow k) (E.ad (.tx k))) := hI.1 1 (by omega)
  have i2 : w.cell? ⟨E.ad (.im k), 2, none⟩ = some (.map (some (E.ad (.mr k)))) := hI.1 2 (by omega)
  have n3 : w.cell? ⟨E.ad .sch, 3, none⟩ = some (.map (some (E.ad .mi))) := (hN.1 3 (by omega)).trans (by rw [h.sch.c3])
  have hIl := hI.lt (by omega)
  have hNl := hN.lt (by omega)
  obtain ⟨F, ⟨LL, clock, hR⟩, hF⟩ : ∃ F, MapF ptr w (E.ad (.mr k)) F ∧ RdF E s k F := h.loc (.mr k) hk
  have hlen := fun t => hR.len Ybaz.underlying54 t
  have H : Hid (St E s w) := h
  have HF : Hid (RdF E s k F) := hF
  have HR : Hid (MapR ptr w (E.ad (.mr k)) F LL clock) := hR
  clear hI hN h hF hR
  cases ho : s.ow k with
  | true =>
    have e : s.forget E k = s := by simp [Sta.forget, ho]
    rw [e]
    clear e
    rw [ho] at i1
    simp only [opt, if_true] at i1
    unfold ptr at i1 ⊢
    go_enter Ybaz.func47, Ybaz.ntmps47
    go_wp2_with fail
    go_end0
    exact ⟨rfl, H.out, Kp.refl _ _⟩
  | false =>
    rw [ho] at i1
    simp only [opt] at i1
    cases hb : bare E s k with
    | false =>
      have e : s.forget E k = s := by simp [Sta.forget, hb]
      rw [e]
      have hz : ((LL.length : Int) == 0) = false := by
        rw [beq_eq_false_iff_ne]
        intro h0
        have h1 := HR.out.len_zero.1 (by omega)
        rw [(bare_iff HF.out).2 h1] at hb
        cases hb
      clear e
      unfold ptr
      go_enter Ybaz.func47, Ybaz.ntmps47
      go_wp2_with fail
      go_end0
      exact ⟨rfl, H.out, Kp.refl _ _⟩
    | true =>
      have e : s.forget E k = { s with it := setB s.it k false } := by simp [Sta.forget, hb, ho]
      rw [e]
      have hz : ((LL.length : Int) == 0) = true := by
        have := HR.out.len_zero.2 ((bare_iff HF.out).1 hb)
        rw [this]; rfl
      obtain ⟨Fi, hFi, hIF⟩ : ∃ F, MapF Value.string w (E.ad .mi) F ∧ ItF E s F := H.out.loc .mi trivial
      obtain ⟨w', hdel, hM', hK', hs'⟩ := MapF.delete strKey Ybaz.underlying62 (w := w.drew) (hFi.block rfl) (E.nm k) trivial (fun _ _ => trivial)
      have HG : Hid (St E { s with it := setB s.it k false } w' ∧ Kp (fun b => b = E.ad .mi) w w') := by
        have hK2 : Kp (fun b => b = E.ad .mi) w w' := (Kp.refl _ w).drew.trans hK'
        refine ⟨H.out.items W _ hK2 ⟨_, hM', fun j hj => ?_⟩, hK2⟩
        unfold updF setB
        by_cases e : j = k
        · subst e; simp
        · have : E.nm j ≠ E.nm k := fun e' => e (W.nm j k hj hk e')
          simp only [this, e, if_false]
          exact hIF j hj
      clear e hM' hK' hs' hFi hIF
      unfold ptr
      go_enter Ybaz.func47, Ybaz.ntmps47
      go_wp2_with fail
      go_region
      all_goals
        go_wp2
        go_end0
        exact ⟨rfl, HG.out⟩
end Go.Proofs.YbulkbpdqGreat
