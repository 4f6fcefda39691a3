import Derived.Test.YbulkbpdqGreatShape
namespace Go.Proofs.YbulkbpdqGreat
open Go.ChangeShapes Go.WideShapes Go.ChangeAt Go.RowKit
set_option linter.unusedVariables false

def termB : ByteArray := ⟨#[116, 101, 114, 109, 105, 110, 97, 116, 101, 100]⟩
def setP (f : Nat → ByteArray) (k : Nat) (b : ByteArray) : Nat → ByteArray := fun j => if j = k then b else f j

/-- A version is named. -/
theorem St.version {E : Env} (W : E.Wf) {s : Sta} {w : World} (h : St E s w) {k : Nat} (hk : k < E.n) : ∃ w', Sem.run Ybaz.prog (Instr.mapUpdate 63 (.map (some (E.ad .mv))) (.string (E.nm k)) (.int .u64 0)) w = .ok () w' ∧ St E { s with ve := setB s.ve k true } w' ∧ Kp E.Own w w' := by
  obtain ⟨F, hM, hF1, hF2⟩ : ∃ F, MapF Value.string w (E.ad .mv) F ∧ VeF E s F := h.loc .mv trivial
  obtain ⟨w', h1, h2, h3, h4⟩ := hM.update strKey Ybaz.underlying63 (E.nm k) (.int .u64 0) trivial (fun _ _ => trivial)
  refine ⟨w', h1, h.one W .mv trivial h3 (fun l hl hx hh => ?_) ⟨_, h2, fun j hj => ?_, fun x hx => ?_⟩ rfl rfl rfl, h3.mono fun b hb => .inr ⟨.mv, trivial, hb⟩⟩
  · cases l <;> first | exact hh | exact absurd rfl hx
  · unfold updF setB
    by_cases e : j = k
    · subst e; simp
    · have : E.nm j ≠ E.nm k := fun e' => e (W.nm j k hj hk e')
      simp only [this, e, if_false]
      exact hF1 j hj
  · unfold updF at hx
    split at hx
    · next e => exact ⟨k, hk, e⟩
    · exact hF2 x hx

/-- An item's writer goes. -/
theorem St.unown {E : Env} (W : E.Wf) {s : Sta} {w : World} (h : St E s w) {k : Nat} (hk : k < E.n) : St E { s with ow := setB s.ow k false } (w.setCell ⟨E.ad (.im k), 1, none⟩ (.pointer none)) ∧ Kp E.Own w (w.setCell ⟨E.ad (.im k), 1, none⟩ (.pointer none)) := by
  have hK : Kp (fun b => b = E.ad (.im k)) w (w.setCell ⟨E.ad (.im k), 1, none⟩ (.pointer none)) := (Kp.refl (fun b => b = E.ad (.im k)) w).setCell (p := ⟨E.ad (.im k), 1, none⟩) (fun _ => rfl) _
  have hI : Blk w (E.ad (.im k)) 3 (imOf E s k) := h.loc (.im k) hk
  refine ⟨h.one W (.im k) hk hK (fun l hl hx hh => ?_) ((hI.set 1 (by omega) (.pointer none)).congr fun j hj => ?_) rfl rfl rfl, hK.mono fun b hb => .inr ⟨.im k, hk, hb⟩⟩
  · cases l with
    | im j =>
      have hj : j ≠ k := fun e => hx (by rw [e])
      exact Blk.congr hh fun i hi => by simp only [imOf, setB, hj, if_false]
    | sch => exact hh
    | mi => exact hh
    | mv => exact hh
    | tx j => exact hh
    | mr j => exact hh
    | rs j => exact hh
    | ws j => exact hh
  · unfold upd imOf imC
    by_cases e : j = 1
    · subst e; simp [setB, opt]
    · simp [e]

theorem txC_wr (age : Int) (ph : ByteArray) (rd wr wr' : Value) (cd : Bool) : ∀ j, j < 19 → upd (txC age ph rd wr cd) 16 wr' j = txC age ph rd wr' cd j := fun j hj => by
  unfold upd txC
  by_cases h : j = 16
  · subst h; simp
  · simp [h]
theorem txC_ph (age : Int) (ph ph' : ByteArray) (rd wr : Value) (cd : Bool) : ∀ j, j < 19 → upd (txC age ph rd wr cd) 14 (.string ph') j = txC age ph' rd wr cd j := fun j hj => by
  unfold upd txC
  by_cases h : j = 14
  · subst h; simp
  · simp [h]

theorem St.noWrites {E : Env} (W : E.Wf) {s : Sta} {w : World} (h : St E s w) {k : Nat} (hk : k < E.n) : St E { s with wr := setB s.wr k false } (w.setCell ⟨E.ad (.tx k), 16, none⟩ (.slice none 0 0)) := by
  have ht := h.loc (.tx k) hk
  refine h.txn W hk ((Kp.refl (fun b => b = E.ad (.tx k)) w).setCell (p := ⟨E.ad (.tx k), 16, none⟩) (fun _ => rfl) _) ((ht.1.set 16 (by omega) (.slice none 0 0)).congr fun j hj => ?_) (ht.2.setCell _ _ _) (fun _ _ => rfl) (fun _ _ => rfl) (fun j hj => by simp [setB, hj]) (fun _ _ => rfl) rfl rfl rfl rfl rfl rfl rfl
  show upd (txC _ _ _ _ _) 16 _ j = _
  rw [txC_wr _ _ _ _ _ _ j hj]
  simp only [txOf, setB, if_true]
  rfl
theorem St.phase {E : Env} (W : E.Wf) {s : Sta} {w : World} (h : St E s w) {k : Nat} (hk : k < E.n) : St E { s with ph := setP s.ph k termB } (w.setCell ⟨E.ad (.tx k), 14, none⟩ (.string termB)) := by
  have ht := h.loc (.tx k) hk
  refine h.txn W hk ((Kp.refl (fun b => b = E.ad (.tx k)) w).setCell (p := ⟨E.ad (.tx k), 14, none⟩) (fun _ => rfl) _) ((ht.1.set 14 (by omega) (.string termB)).congr fun j hj => ?_) (ht.2.setCell _ _ _) (fun j hj => by simp [setP, hj]) (fun _ _ => rfl) (fun _ _ => rfl) (fun _ _ => rfl) rfl rfl rfl rfl rfl rfl rfl
  show upd (txC _ _ _ _ _) 14 _ j = _
  rw [txC_ph _ _ _ _ _ _ j hj]
  simp only [txOf, setP, if_true]

/-- A move is kept. -/
theorem St.moved {E : Env} (W : E.Wf) {s : Sta} {w w' : World} (h : St E s w) (hM : MoveK w E.B (E.ad .sch) s.c s.m w') : ∃ v, St E { s with c := upd (upd s.c 11 v) 141 (.int .u32 1), m := s.m + 1 } w' ∧ Kp E.Own w w' := by
  obtain ⟨hK, v, ms, hb, hr, hMv⟩ := hM
  obtain ⟨ms0, hm0⟩ := h.mo
  have e206 : upd (upd s.c 11 v) 141 (.int .u32 1) 206 = s.c 206 := by rw [upd_other _ _ (by omega), upd_other _ _ (by omega)]
  have e11 : upd (upd s.c 11 v) 141 (.int .u32 1) 11 = v := by rw [upd_other _ _ (by omega), upd_same]
  refine ⟨v, ⟨h.locs W hK (fun l => l = .sch) (fun l hl e => ?_) (fun l hl hx hh => ?_) (fun l hl hx => by subst hx; exact hb), (h.sch.upd v (by omega)).upd _ (by omega), ?_, ⟨ms, ?_⟩, ?_, h.ix, Nat.le_trans h.sz hK.size⟩, hK.mono fun b hb => ?_⟩
  · rcases e with e | e
    · exact W.inj _ _ hl trivial e
    · have := (hm0.lt _ e).1; have := W.lt l hl; omega
  · cases l <;> first | exact hh | exact absurd rfl hx
  · show w'.ownsRow E.B 34 1 (upd (upd s.c 11 v) 141 (.int .u32 1) 206) _ _
    rw [e206]
    refine owns_kept h.hp hK (fun b hb e => ?_)
    rcases e with e | e
    · have := (h.hp.lt b hb).1; have := W.lt .sch trivial; omega
    · exact h.sep b hb e
  · show w'.ownsRow E.B 187 5 (upd (upd s.c 11 v) 141 (.int .u32 1) 11) _ _
    rw [e11]; exact hr
  · intro b h1 h2
    have h1' : (s.c 206).ownBlock = some b := by rw [← e206]; exact h1
    have h2' : v.ownBlock = some b := by rw [← e11]; exact h2
    rcases hMv with e | ⟨g, e1, e2⟩
    · exact h.sep b h1' (by rw [← e]; exact h2')
    · rw [h2'] at e1; cases e1
      have := (h.hp.lt b h1').2; omega
  · rcases hb with e | e
    · exact .inr ⟨.sch, trivial, e⟩
    · exact .inl (hm0.lt b e).1

theorem bare_congr {E : Env} {s s' : Sta} (k : Nat) (h : ∀ r, r < E.n → E.src r = some k → (s.rl r).isNone = (s'.rl r).isNone) : bare E s k = bare E s' k := by
  unfold bare
  rw [Bool.eq_iff_iff, List.all_eq_true, List.all_eq_true]
  constructor
  · intro hh r hr
    have h1 := hh r hr
    by_cases e : E.src r = some k
    · rw [← h r (List.mem_range.1 hr) e]; exact h1
    · simp [e]
  · intro hh r hr
    have h1 := hh r hr
    by_cases e : E.src r = some k
    · rw [h r (List.mem_range.1 hr) e]; exact h1
    · simp [e]

/-- Behind a termination. -/
structure TermTo (E : Env) (og : Nat → ByteArray) (k : Nat) (s s' : Sta) : Prop where
  shape : Shape E og s'
  ow : s'.ow = setB s.ow k false
  cd : ∀ r, r < E.n → s'.cd r = (s.cd r || (decide (E.src r = some k) && s.ow r))
  m : s'.m = s.m + 1

theorem unread_it {E : Env} {og : Nat → ByteArray} {k : Nat} {s : Sta} (hS : Shape E og s) (hk : k < E.n) (how : s.ow k = true) (hsrc : ∀ j, E.src k = some j → s.ow j = false) : ∀ i, i < E.n → (s.unread E k).it i = if i = k then s.it k else (s.ow i || !bare E (s.unread E k) i) := fun i hi => by
  have hrd := hS.rd k hk
  rw [how] at hrd
  cases hs : E.src k with
  | none =>
    rw [hs] at hrd
    have e : s.unread E k = { s with rd := setB s.rd k false } := by unfold Sta.unread; simp [hrd]
    rw [e]
    show s.it i = _
    by_cases hik : i = k
    · rw [if_pos hik, hik]
    · rw [if_neg hik, hS.it i hi]; rfl
  | some j =>
    rw [hs] at hrd
    have hoj := hsrc j hs
    have hjk : j ≠ k := fun e => by rw [e, how] at hoj; cases hoj
    have e : s.unread E k = { Sta.forget E j { s with rl := setO s.rl k none } with rd := setB s.rd k false } := by unfold Sta.unread; simp [hrd, hs]
    rw [e]
    have hb : ∀ q, bare E { Sta.forget E j { s with rl := setO s.rl k none } with rd := setB s.rd k false } q = bare E { s with rl := setO s.rl k none } q := fun q => bare_congr q fun r _ _ => by
      show ((Sta.forget E j { s with rl := setO s.rl k none }).rl r).isNone = _
      rw [(forget_rd E j { s with rl := setO s.rl k none }).2.2.2.2.2.1]
    rw [hb i]
    show (Sta.forget E j { s with rl := setO s.rl k none }).it i = _
    by_cases hij : i = j
    · subst hij
      rw [if_neg hjk]
      unfold Sta.forget
      show (if (!s.ow i && bare E { s with rl := setO s.rl k none } i) = true then { s with rl := setO s.rl k none, it := setB s.it i false } else { s with rl := setO s.rl k none }).it i = _
      rw [hoj]
      cases hbb : bare E { s with rl := setO s.rl k none } i with
      | true => simp [setB]
      | false =>
        simp
        rw [hS.it i hi, hoj]
        cases hb2 : bare E s i with
        | false => rfl
        | true =>
          exfalso
          have h3 : bare E { s with rl := setO s.rl k none } i = true := by
            unfold bare at hb2 ⊢
            rw [List.all_eq_true] at hb2 ⊢
            intro r hr
            have := hb2 r hr
            show (decide (E.src r ≠ some i) || (setO s.rl k none r).isNone) = true
            unfold setO
            by_cases e2 : r = k
            · simp [e2]
            · simp only [e2, if_false]; exact this
          rw [hbb] at h3; cases h3
    · have hit : (Sta.forget E j { s with rl := setO s.rl k none }).it i = s.it i := by
        unfold Sta.forget
        split
        · simp [setB, hij]
        · rfl
      rw [hit]
      by_cases hik : i = k
      · rw [if_pos hik, hik]
      · rw [if_neg hik, hS.it i hi]
        congr 2
        refine bare_congr i fun r hr hsr => ?_
        show (s.rl r).isNone = (setO s.rl k none r).isNone
        unfold setO
        by_cases e2 : r = k
        · subst e2; rw [hs] at hsr; cases hsr; exact absurd rfl hij
        · simp [e2]

theorem shape_term {E : Env} {og : Nat → ByteArray} {k : Nat} {s s1 s2 s' : Sta} (hS : Shape E og s) (hk : k < E.n) (how : s.ow k = true) (hsrc : ∀ j, E.src k = some j → s.ow j = false)
    (hf : s1.ph = s.ph ∧ s1.wr = s.wr ∧ s1.cd = s.cd ∧ s1.ow = s.ow ∧ s1.ve = s.ve ∧ s1.c = s.c ∧ s1.L = s.L ∧ s1.m = s.m ∧ s1.rd = setB s.rd k false) (hrl : ∀ r, r < E.n → s1.rl r = if r = k then none else s.rl r) (hit : ∀ i, i < E.n → s1.it i = if i = k then s.it k else (s.ow i || !bare E s1 i))
    (hA : Aged E k s1 s2) (hend : ∀ r, r < E.n → E.src r = some k → s2.rl r ≠ some true)
    (e1 : s'.ph = setP s2.ph k termB) (e2 : s'.rd = s2.rd) (e3 : s'.wr = setB s2.wr k false) (e4 : s'.cd = s2.cd) (e5 : s'.ow = setB s2.ow k false) (e6 : s'.rl = s2.rl) (e7 : s'.it = (Sta.forget E k { s2 with ve := setB s2.ve k true, ow := setB s2.ow k false }).it) (e8 : s'.ve = setB s2.ve k true) (e9 : s'.L = s2.L) (e10 : s'.m = s2.m + 1) : TermTo E og k s s' := by
  obtain ⟨f1, f2, f3, f4, f5, f6, f7, f8, f9⟩ := hf
  have how' : s'.ow = setB s.ow k false := by rw [e5, hA.ow, f4]
  have hrl' : ∀ j, j < E.n → s'.rl j = if s'.ow j then (E.src j).map s'.ow else none := fun j hj => by
    rw [e6, how']
    by_cases hjk : j = k
    · subst hjk
      have h1 := hrl j hj
      rw [if_pos rfl] at h1
      rcases hA.rl j hj with h2 | ⟨_, h2, _⟩
      · rw [h2, h1]; simp [setB]
      · rw [h1] at h2; cases h2
    · have h1 := hrl j hj
      rw [if_neg hjk, hS.rl j hj] at h1
      have hoj : setB s.ow k false j = s.ow j := by simp [setB, hjk]
      rw [hoj]
      cases hj2 : s.ow j with
      | false =>
        rw [hj2] at h1
        simp at h1
        rcases hA.rl j hj with h2 | ⟨_, h2, _⟩
        · rw [h2, h1]; simp
        · rw [h1] at h2; cases h2
      | true =>
        rw [hj2] at h1
        simp at h1
        cases hs : E.src j with
        | none =>
          rw [hs] at h1
          rcases hA.rl j hj with h2 | ⟨h2, _⟩
          · rw [h2, h1]; simp
          · rw [hs] at h2; cases h2
        | some i =>
          rw [hs] at h1
          simp at h1
          by_cases hik : i = k
          · subst hik
            rw [how] at h1
            have h3 := hend j hj hs
            rcases hA.rl j hj with h2 | ⟨_, _, h2, _⟩
            · rw [h2, h1] at h3; exact absurd rfl h3
            · rw [h2]; simp [setB]
          · rcases hA.rl j hj with h2 | ⟨h2, _⟩
            · rw [h2, h1]; simp [setB, hik]
            · rw [hs] at h2; cases h2; exact absurd rfl hik
  refine ⟨⟨fun j hj => ?_, fun j hj => ?_, fun j hj => ?_, fun j hj => ?_, hrl', fun j hj => ?_, ⟨by rw [e9]; exact hA.li.nd, fun r hr => by rw [e9, e4]; exact hA.li.cd r hr⟩⟩, how', fun r hr => ?_, by rw [e10, hA.m, f8]⟩
  · rw [how', e3, hA.wr, f2]
    unfold setB
    split
    · rfl
    · exact hS.wr j hj
  · rw [how', e8, hA.ve, f5]
    unfold setB
    split
    · rfl
    · exact hS.ve j hj
  · rw [how', e1, hA.ph, f1]
    unfold setB setP
    by_cases e : j = k
    · simp [e, termB]
    · simp only [e, if_false]; exact hS.ph j hj
  · rw [how', e2, hA.rd, f9]
    unfold setB
    by_cases e : j = k
    · simp [e]
    · simp only [e, if_false]; exact hS.rd j hj
  · have hbk : ∀ q, bare E { s2 with ve := setB s2.ve k true, ow := setB s2.ow k false } q = bare E s' q := fun q => bare_congr q fun r _ _ => by rw [e6]
    have hb1 : ∀ q, bare E s1 q = bare E s' q := fun q => bare_congr q fun r hr _ => by
      rw [e6]
      rcases hA.rl r hr with h2 | ⟨_, h2, h3, _⟩
      · rw [h2]
      · rw [h2, h3]; rfl
    rw [e7, how']
    unfold Sta.forget
    rw [hbk k]
    show (if (!setB s2.ow k false k && bare E s' k) = true then { s2 with ve := setB s2.ve k true, ow := setB s2.ow k false, it := setB s2.it k false } else { s2 with ve := setB s2.ve k true, ow := setB s2.ow k false }).it j = _
    by_cases hjk : j = k
    · subst hjk
      cases hb : bare E s' j with
      | true => simp [setB]
      | false =>
        simp [setB]
        rw [hA.it, hit j hj, if_pos rfl, hS.it j hj, how]; rfl
    · have h1 : s2.it j = (s.ow j || !bare E s' j) := by rw [hA.it, hit j hj, if_neg hjk, hb1 j]
      split
      · simp [setB, hjk, h1]
      · simp [setB, hjk, h1]
  · rw [e4]
    rw [Bool.eq_iff_iff]
    simp only [Bool.or_eq_true, Bool.and_eq_true, decide_eq_true_eq]
    constructor
    · intro h1
      rcases hA.cd r hr h1 with h2 | ⟨h2, h3⟩
      · left; rw [← f3]; exact h2
      · right
        refine ⟨h2, ?_⟩
        rw [hrl r hr] at h3
        split at h3
        · cases h3
        · rw [hS.rl r hr] at h3
          cases ho : s.ow r with
          | true => rfl
          | false => rw [ho] at h3; simp at h3
    · rintro (h1 | ⟨h1, h2⟩)
      · exact hA.up r hr (by rw [f3]; exact h1)
      · have hrk : r ≠ k := fun e => by
          subst e
          have := hsrc r h1
          rw [how] at this; cases this
        have h3 : s1.rl r = some true := by rw [hrl r hr, if_neg hrk, hS.rl r hr, h2, h1]; simp [how]
        rcases hA.rl r hr with h4 | ⟨_, _, _, h4⟩
        · exact absurd (h4.trans h3) (hend r hr h1)
        · exact h4
end Go.Proofs.YbulkbpdqGreat
