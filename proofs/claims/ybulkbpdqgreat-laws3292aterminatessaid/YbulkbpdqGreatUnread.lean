import Derived.Test.YbulkbpdqGreatCst
namespace Go.Proofs.YbulkbpdqGreat
open Go.ChangeShapes Go.WideShapes Go.ChangeAt Go.RowKit
set_option linter.unusedVariables false

/-- One block is turned. -/
theorem St.one {E : Env} (W : E.Wf) {s s' : Sta} {w w' : World} (h : St E s w) (l0 : Loc) (h0 : E.ok l0) (hK : Kp (fun b => b = E.ad l0) w w') (hs : ∀ l, E.ok l → l ≠ l0 → Holds E s w' l → Holds E s' w' l) (hn : Holds E s' w' l0) (hc : s'.c = s.c) (hL : s'.L = s.L) (hm : s'.m = s.m) : St E s' w' := by
  refine ⟨h.locs W hK (fun l => l = l0) (fun l hl e => W.inj _ _ hl h0 e) hs (fun l hl hx => by subst hx; exact hn), by rw [hc]; exact h.sch, ?_, ?_, by rw [hc]; exact h.sep, by rw [hL]; exact h.ix, Nat.le_trans h.sz hK.size⟩
  · rw [hc, hL]
    exact owns_kept h.hp hK (fun b hb e => by have := (h.hp.lt b hb).1; have := W.lt l0 h0; omega)
  · obtain ⟨ms, hq⟩ := h.mo
    rw [hc, hm]
    exact ⟨ms, owns_kept hq hK (fun b hb e => by have := (hq.lt b hb).1; have := W.lt l0 h0; omega)⟩

def setO (f : Nat → Option Bool) (k : Nat) (b : Option Bool) : Nat → Option Bool := fun j => if j = k then b else f j

theorem St.goodKeys {E : Env} {s : Sta} {w : World} (h : St E s w) {j : Nat} {F : Nat → Option Value} (hF : RdF E s j F) : ∀ b, (F b).isSome = true → Raw w b := fun b hb => by
  obtain ⟨k, hk, rfl⟩ := hF.2 b hb
  exact (h.loc (.tx k) hk).2

/-- A reader goes, or turns. -/
theorem RdF.set {E : Env} (W : E.Wf) {s : Sta} {j k : Nat} {F : Nat → Option Value} (hF : RdF E s j F) (hk : k < E.n) (hj : E.src k = some j) (o : Option Bool) : RdF E { s with rl := setO s.rl k o } j (updF F (E.ad (.tx k)) (o.map rlv)) := by
  refine ⟨fun i hi => ?_, fun b hb => ?_⟩
  · unfold updF setO
    by_cases e : i = k
    · subst e; simp [hj]
    · have : E.ad (.tx i) ≠ E.ad (.tx k) := fun e' => e (by have := W.inj _ _ (show E.ok (.tx i) from hi) (show E.ok (.tx k) from hk) e'; injection this)
      simp only [this, e, if_false]
      exact hF.1 i hi
  · unfold updF at hb
    split at hb
    · next e => exact ⟨k, hk, e⟩
    · exact hF.2 b hb

theorem St.reader {E : Env} (W : E.Wf) {s : Sta} {w w' : World} (h : St E s w) {j k : Nat} (hj : j < E.n) (hk : k < E.n) (hs : E.src k = some j) (o : Option Bool) (hK : Kp (fun b => b = E.ad (.mr j)) w w') {F : Nat → Option Value} (hM : MapF ptr w' (E.ad (.mr j)) F) (hF : RdF E { s with rl := setO s.rl k o } j F) : St E { s with rl := setO s.rl k o } w' := by
  refine h.one W (.mr j) hj hK (fun l hl hx hh => ?_) ⟨F, hM, hF⟩ rfl rfl rfl
  cases l with
  | mr i =>
    have hij : i ≠ j := fun e => hx (by rw [e])
    obtain ⟨F', h1, h2, h3⟩ := hh
    refine ⟨F', h1, fun r hr => ?_, h3⟩
    rw [h2 r hr]
    unfold setO
    by_cases e : r = k
    · subst e
      have : ¬ E.src r = some i := by rw [hs]; intro e; injection e with e; exact hij e.symm
      simp [this]
    · simp [e]
  | sch => exact hh
  | mi => exact hh
  | mv => exact hh
  | tx k => exact hh
  | im k => exact hh
  | rs k => exact hh
  | ws k => exact hh

/-- A transaction's block is turned. -/
theorem St.txn {E : Env} (W : E.Wf) {s s' : Sta} {w w' : World} (h : St E s w) {k : Nat} (hk : k < E.n) (hK : Kp (fun b => b = E.ad (.tx k)) w w') (hb : Blk w' (E.ad (.tx k)) 19 (txOf E s' k)) (hr : Raw w' (E.ad (.tx k)))
    (hph : ∀ j, j ≠ k → s'.ph j = s.ph j) (hrd : ∀ j, j ≠ k → s'.rd j = s.rd j) (hwr : ∀ j, j ≠ k → s'.wr j = s.wr j) (hcd : ∀ j, j ≠ k → s'.cd j = s.cd j)
    (how : s'.ow = s.ow) (hrl : s'.rl = s.rl) (hit : s'.it = s.it) (hve : s'.ve = s.ve) (hc : s'.c = s.c) (hL : s'.L = s.L) (hm : s'.m = s.m) : St E s' w' := by
  refine h.one W (.tx k) hk hK (fun l hl hx hh => ?_) ⟨hb, hr⟩ hc hL hm
  cases l with
  | tx j =>
    have hj : j ≠ k := fun e => hx (by rw [e])
    refine ⟨hh.1.congr fun i hi => ?_, hh.2⟩
    simp only [txOf, hph j hj, hrd j hj, hwr j hj, hcd j hj]
  | sch => show Blk _ _ _ s'.c; rw [hc]; exact hh
  | mi => obtain ⟨F, h1, h2⟩ := hh; exact ⟨F, h1, fun i hi => by rw [hit]; exact h2 i hi⟩
  | mv => obtain ⟨F, h1, h2, h3⟩ := hh; exact ⟨F, h1, fun i hi => by rw [hve]; exact h2 i hi, h3⟩
  | im j => exact Blk.congr hh fun i hi => by simp only [imOf, how]
  | mr j => obtain ⟨F, h1, h2, h3⟩ := hh; exact ⟨F, h1, fun i hi => by rw [hrl]; exact h2 i hi, h3⟩
  | rs k => exact hh
  | ws k => exact hh

def Sta.unread (E : Env) (k : Nat) (s : Sta) : Sta :=
  match (if s.rd k then E.src k else none) with
  | some j => { Sta.forget E j { s with rl := setO s.rl k none } with rd := setB s.rd k false }
  | none => { s with rd := setB s.rd k false }

theorem txC_rd (age : Int) (ph : ByteArray) (rd rd' wr : Value) (cd : Bool) : ∀ j, j < 19 → upd (txC age ph rd wr cd) 15 rd' j = txC age ph rd' wr cd j := fun j hj => by
  unfold upd txC
  by_cases h : j = 15
  · subst h; simp
  · simp [h]

theorem forget_rd (E : Env) (k : Nat) (s : Sta) : (s.forget E k).rd = s.rd ∧ (s.forget E k).wr = s.wr ∧ (s.forget E k).cd = s.cd ∧ (s.forget E k).ph = s.ph ∧ (s.forget E k).ow = s.ow ∧ (s.forget E k).rl = s.rl ∧ (s.forget E k).ve = s.ve ∧ (s.forget E k).c = s.c ∧ (s.forget E k).L = s.L ∧ (s.forget E k).m = s.m := by
  unfold Sta.forget
  split <;> exact ⟨rfl, rfl, rfl, rfl, rfl, rfl, rfl, rfl, rfl, rfl⟩

/-- The reads of a transaction go. -/
theorem St.noReads {E : Env} (W : E.Wf) {s : Sta} {w : World} (h : St E s w) {k : Nat} (hk : k < E.n) : St E { s with rd := setB s.rd k false } (w.setCell ⟨E.ad (.tx k), 15, none⟩ (.slice none 0 0)) := by
  have ht := h.loc (.tx k) hk
  refine h.txn W hk ((Kp.refl (fun b => b = E.ad (.tx k)) w).setCell (p := ⟨E.ad (.tx k), 15, none⟩) (fun _ => rfl) _) ((ht.1.set 15 (by omega) (.slice none 0 0)).congr fun j hj => ?_) (ht.2.setCell _ _ _) (fun _ _ => rfl) (fun j hj => by simp [setB, hj]) (fun _ _ => rfl) (fun _ _ => rfl) rfl rfl rfl rfl rfl rfl rfl
  show upd (txC _ _ _ _ _) 15 _ j = _
  rw [txC_rd _ _ _ _ _ _ j hj]
  simp only [txOf, setB, if_true]
  rfl

set_option maxRecDepth 100000 in
set_option maxHeartbeats 1000000 in
theorem unread_any (E : Env) (W : E.Wf) (s : Sta) (k : Nat) (hk : k < E.n) (w : World) (h : St E s w) (hp : s.rd k = true → ∃ j, E.src k = some j ∧ s.rl k = some false ∧ s.ow j = false) :
    Calls Ybaz.prog 45 #[ptr (E.ad .sch), ptr (E.ad (.tx k))] w fun e w' => e = .returned (.tuple #[]) ∧ St E (s.unread E k) w' ∧ Kp E.Own w w' := by
  have ht := h.loc (.tx k) hk
  have t15 : w.cell? ⟨E.ad (.tx k), 15, none⟩ = some (one (s.rd k) (E.ad (.rs k))) := ht.1.1 15 (by omega)
  have f15 := ht.1.2 15
  have htl := ht.1.lt (by omega)
  cases hr : s.rd k with
  | false =>
    have e : s.unread E k = { s with rd := setB s.rd k false } := by simp [Sta.unread, hr]
    rw [e]
    have HF : Hid (St E { s with rd := setB s.rd k false } (w.setCell ⟨E.ad (.tx k), 15, none⟩ (.slice none 0 0)) ∧ Kp E.Own w (w.setCell ⟨E.ad (.tx k), 15, none⟩ (.slice none 0 0))) := ⟨h.noReads W hk, (Kp.refl E.Own w).setCell (p := ⟨E.ad (.tx k), 15, none⟩) (fun _ => .inr ⟨.tx k, hk, rfl⟩) _⟩
    rw [hr] at t15
    simp only [one] at t15
    clear e h ht
    unfold ptr
    go_enter Ybaz.func45, Ybaz.ntmps45
    go_wp2_with fail
    refine wp_loop_rounds 1 ?_
    rw [rounds_succ]
    go_wp2_with fail
    go_end0
    exact ⟨rfl, HF.out⟩
  | true =>
    obtain ⟨j, hj, hrl, how⟩ := hp hr
    have hjn := W.src k j hk hj
    have e : s.unread E k = { Sta.forget E j { s with rl := setO s.rl k none } with rd := setB s.rd k false } := by simp [Sta.unread, hr, hj]
    rw [e]
    rw [hr] at t15
    simp only [one, if_true] at t15
    have hrs : Blk w (E.ad (.rs k)) 1 (fun _ => ptr (E.ad (.im j))) := h.loc (.rs k) ⟨hk, by rw [hj]; simp⟩ j hj
    have r0 : w.cell? ⟨E.ad (.rs k), 0, none⟩ = some (.pointer (some ⟨E.ad (.im j), 0, none⟩)) := hrs.1 0 (by omega)
    have hrl0 := hrs.lt (by omega)
    have hI : Blk w (E.ad (.im j)) 3 (imOf E s j) := h.loc (.im j) hjn
    have i1 : w.cell? ⟨E.ad (.im j), 1, none⟩ = some (.pointer none) := (hI.1 1 (by omega)).trans (by simp [imOf, imC, opt, how])
    have i2 : w.cell? ⟨E.ad (.im j), 2, none⟩ = some (.map (some (E.ad (.mr j)))) := hI.1 2 (by omega)
    have hIl := hI.lt (by omega)
    obtain ⟨F, hM, hF⟩ : ∃ F, MapF ptr w (E.ad (.mr j)) F ∧ RdF E s j F := h.loc (.mr j) hjn
    have hFk : F (E.ad (.tx k)) = some (rlv false) := by rw [hF.1 k hk, if_pos hj, hrl]; rfl
    have hlk : Sem.run Ybaz.prog (Instr.lookup 54 (.map (some (E.ad (.mr j)))) (.pointer (some ⟨E.ad (.tx k), 0, none⟩)) false) w = .ok (.string ⟨#[114, 108, 45, 111, 108, 100]⟩) w := by
      have := hM.lookup ptrKey Ybaz.underlying54 zero80 (E.ad (.tx k)) false ht.2 (h.goodKeys hF)
      rw [hFk] at this
      exact this
    obtain ⟨w1, hdel, hM1, hK1, hs1⟩ := hM.delete ptrKey Ybaz.underlying54 (E.ad (.tx k)) ht.2 (h.goodKeys hF)
    unfold ptr at hdel
    have h1 : St E { s with rl := setO s.rl k none } w1 := h.reader W hjn hk hj none hK1 hM1 (hF.set W hk hj none)
    have H1 : Hid (St E { s with rl := setO s.rl k none } w1 ∧ Kp E.Own w w1) := ⟨h1, hK1.mono fun b hb => .inr ⟨.mr j, hjn, hb⟩⟩
    clear e h ht hrs hI hM hF hM1 hK1 h1 hFk
    unfold ptr
    go_enter Ybaz.func45, Ybaz.ntmps45
    go_wp2_with fail
    refine wp_loop_rounds 2 ?_
    rw [rounds_succ]
    go_wp2_with fail
    refine (forget_any E W _ j hjn w1 H1.out.1).mono ?_
    rintro e w2 ⟨rfl, h2, hK2⟩
    have ht2 := h2.loc (.tx k) hk
    have t15b := ht2.1.1 15 (by omega)
    have f15b := ht2.1.2 15
    have htl2 := ht2.1.lt (by omega)
    have HF : Hid (St E { Sta.forget E j { s with rl := setO s.rl k none } with rd := setB s.rd k false } (w2.setCell ⟨E.ad (.tx k), 15, none⟩ (.slice none 0 0)) ∧ Kp E.Own w (w2.setCell ⟨E.ad (.tx k), 15, none⟩ (.slice none 0 0))) := by
      refine ⟨?_, (H1.out.2.trans (hK2.mono fun b hb => .inr ⟨.mi, trivial, hb⟩)).setCell (p := ⟨E.ad (.tx k), 15, none⟩) (fun _ => .inr ⟨.tx k, hk, rfl⟩) _⟩
      have := h2.noReads W hk
      rw [(forget_rd E j { s with rl := setO s.rl k none }).1] at this
      exact this
    clear h2 hK2 ht2 hlk hdel
    go_wp2_with fail
    rw [rounds_succ]
    go_wp2_with fail
    go_end0
    exact ⟨rfl, HF.out⟩
end Go.Proofs.YbulkbpdqGreat
