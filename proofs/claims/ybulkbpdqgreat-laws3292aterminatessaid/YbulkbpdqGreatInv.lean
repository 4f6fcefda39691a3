import Derived.Test.YbulkbpdqGreatTerm
import Derived.Test.YbulkbpdqGreatPrecC
namespace Go.Proofs.YbulkbpdqGreat
open Go.ChangeShapes Go.WideShapes Go.ChangeAt Go.RowKit
set_option linter.unusedVariables false

def comB : ByteArray := ⟨#[99, 111, 109, 109, 105, 116, 116, 101, 100]⟩

/-- The least fixed point. -/
inductive Lf (E : Env) (og : Nat → ByteArray) : Nat → Prop
  | base (k : Nat) : og k = comB → E.src k = none → Lf E og k
  | step (k j : Nat) : og k = comB → E.src k = some j → Lf E og j → Lf E og k

def alive (E : Env) (s : Sta) : Nat := ((List.range E.n).filter s.ow).length
def mu (E : Env) (s : Sta) : Nat := alive E s * (E.n + 1) + s.L.length

structure Inv (E : Env) (og : Nat → ByteArray) (s : Sta) : Prop where
  sh : Shape E og s
  so : ∀ k, k < E.n → s.ow k = false → Lf E og k
  co : ∀ k, k < E.n → s.ow k = true → og k = comB → (∀ j, E.src k = some j → s.ow j = false) → s.cd k = true
  m : s.m + alive E s = E.n

theorem filter_set (f : Nat → Bool) (k : Nat) (hk : f k = true) : ∀ n, k < n → ((List.range n).filter (setB f k false)).length + 1 = ((List.range n).filter f).length
  | 0, h => by omega
  | n + 1, h => by
    rw [List.range_succ, List.filter_append, List.filter_append, List.length_append, List.length_append]
    by_cases e : k = n
    · subst e
      have h1 : (List.range k).filter (setB f k false) = (List.range k).filter f := List.filter_congr fun i hi => by
        have := List.mem_range.1 hi
        simp [setB, show i ≠ k by omega]
      rw [h1]
      simp [setB, hk]
    · have := filter_set f k hk n (by omega)
      have h2 : setB f k false n = f n := by simp [setB, show n ≠ k from fun h => e h.symm]
      have h3 : ([n].filter (setB f k false)).length = ([n].filter f).length := by simp [List.filter, h2]
      omega

theorem alive_le (E : Env) (s : Sta) : alive E s ≤ E.n := Nat.le_trans (List.length_filter_le _ _) (by simp)

/-- A candidate is popped. -/
theorem inv_pop {E : Env} {og : Nat → ByteArray} {s : Sta} {k : Nat} {m0 : List Nat} {c : Nat → Value} (h : Inv E og s) (hk : k < E.n) (hp : (m0 ++ [k]).Perm s.L) :
    Shape E og { s with L := m0, c := c, cd := setB s.cd k false } ∧ mu E { s with L := m0, c := c, cd := setB s.cd k false } + 1 = mu E s := by
  have hnd := hp.nodup_iff.2 h.sh.li.nd
  have hnd2 := List.nodup_append.1 hnd
  have hkm : k ∉ m0 := fun hm => hnd2.2.2 k hm k (by simp) rfl
  refine ⟨⟨h.sh.wr, h.sh.ve, h.sh.ph, h.sh.rd, h.sh.rl, h.sh.it, ⟨hnd2.1, fun r hr => ?_⟩⟩, ?_⟩
  · show r ∈ m0 ↔ setB s.cd k false r = true
    have h1 := h.sh.li.cd r hr
    rw [← hp.mem_iff, List.mem_append] at h1
    unfold setB
    by_cases e : r = k
    · subst e; simp [hkm]
    · simp only [e, if_false]
      rw [← h1]
      simp [e]
  · have := hp.length_eq
    unfold mu alive
    simp at this ⊢
    omega

/-- The popped one stays. -/
theorem inv_stay {E : Env} {og : Nat → ByteArray} {s : Sta} {k : Nat} {m0 : List Nat} {c : Nat → Value} (h : Inv E og s) (hk : k < E.n) (hp : (m0 ++ [k]).Perm s.L) (hno : ¬ (s.ow k = true ∧ og k = comB ∧ ∀ j, E.src k = some j → s.ow j = false)) :
    Inv E og { s with L := m0, c := c, cd := setB s.cd k false } := by
  refine ⟨(inv_pop h hk hp).1, h.so, fun r hr h1 h2 h3 => ?_, h.m⟩
  show setB s.cd k false r = true
  unfold setB
  by_cases e : r = k
  · subst e; exact absurd ⟨h1, h2, h3⟩ hno
  · simp only [e, if_false]; exact h.co r hr h1 h2 h3

/-- The popped one is terminated. -/
theorem inv_term {E : Env} {og : Nat → ByteArray} {s s' : Sta} {k : Nat} {m0 : List Nat} {c : Nat → Value} (W : E.Wf) (h : Inv E og s) (hk : k < E.n) (how : s.ow k = true) (hc : og k = comB) (hsrc : ∀ j, E.src k = some j → s.ow j = false)
    (ht : TermTo E og k { s with L := m0, c := c, cd := setB s.cd k false } s') (hix : ∀ r ∈ s'.L, r < E.n) : Inv E og s' ∧ mu E s' < mu E s := by
  have how' : s'.ow = setB s.ow k false := ht.ow
  have hal : alive E s' + 1 = alive E s := by
    unfold alive
    rw [how']
    exact filter_set s.ow k how E.n hk
  refine ⟨⟨ht.shape, fun r hr h1 => ?_, fun r hr h1 h2 h3 => ?_, ?_⟩, ?_⟩
  · rw [how'] at h1
    unfold setB at h1
    by_cases e : r = k
    · subst e
      cases hs : E.src r with
      | none => exact .base r hc hs
      | some j => exact .step r j hc hs (h.so j (W.src r j hr hs) (hsrc j hs))
    · simp only [e, if_false] at h1; exact h.so r hr h1
  · rw [how'] at h1 h3
    have hrk : r ≠ k := fun e => by subst e; simp [setB] at h1
    have h1' : s.ow r = true := by simpa [setB, hrk] using h1
    rw [ht.cd r hr]
    show (setB s.cd k false r || (decide (E.src r = some k) && s.ow r)) = true
    by_cases e : E.src r = some k
    · simp [e, h1']
    · have h3' : ∀ j, E.src r = some j → s.ow j = false := fun j hj => by
        have := h3 j hj
        unfold setB at this
        split at this
        · next e2 => subst e2; exact absurd hj e
        · exact this
      have := h.co r hr h1' h2 h3'
      simp [setB, hrk, this]
  · have h4 : s'.m = s.m + 1 := ht.m
    have := h.m
    omega
  · have hl := nodup_len E.n s'.L ht.shape.li.nd hix
    unfold mu
    have e1 : alive E s * (E.n + 1) = alive E s' * (E.n + 1) + (E.n + 1) := by rw [← hal, Nat.succ_mul]
    omega

/-- The candidates, popped. -/
theorem St.popped {E : Env} (W : E.Wf) {s : Sta} {w w' : World} (h : St E s w) {V : Value} {m0 : List Nat} {k : Nat} (hp : (m0 ++ [k]).Perm s.L) (hH : HS w' E.B (E.ad .sch) (upd s.c 206 V) (m0.map fun k => E.ad (.tx k))) (hK : Kp (fun b => b = E.ad .sch ∨ (s.c 206).ownBlock = some b) w w') (hV : V.ownBlock = (s.c 206).ownBlock) :
    St E { s with L := m0, c := upd s.c 206 V } w' ∧ Kp E.Own w w' := by
  obtain ⟨ms, hm⟩ := h.mo
  have e11 : upd s.c 206 V 11 = s.c 11 := upd_other _ _ (by omega)
  have e206 : upd s.c 206 V 206 = V := upd_same _ _ _
  refine ⟨⟨h.locs W hK (fun l => l = .sch) (fun l hl e => ?_) (fun l hl hx hh => ?_) (fun l hl hx => by subst hx; exact hH.blk), h.sch.upd V (by omega), ?_, ⟨ms, ?_⟩, ?_, fun r hr => h.ix r (hp.mem_iff.1 (List.mem_append_left _ hr)), hH.sz⟩, hK.mono fun b hb => ?_⟩
  · rcases e with e | e
    · exact W.inj _ _ hl trivial e
    · have := (h.hp.lt _ e).1; have := W.lt l hl; omega
  · cases l <;> first | exact hh | exact absurd rfl hx
  · have := hH.row
    simpa [List.map_map, Function.comp_def] using this
  · show w'.ownsRow E.B 187 5 (upd s.c 206 V 11) _ _
    rw [e11]
    refine owns_kept hm hK (fun b hb e => ?_)
    rcases e with e | e
    · have := (hm.lt b hb).1; have := W.lt .sch trivial; omega
    · exact h.sep b e hb
  · intro b h1 h2
    exact h.sep b (by rw [← hV, ← e206]; exact h1) (by rw [← e11]; exact h2)
  · rcases hb with e | e
    · exact .inr ⟨.sch, trivial, e⟩
    · exact .inl (h.hp.lt b e).1

theorem St.uncand {E : Env} (W : E.Wf) {s : Sta} {w : World} (h : St E s w) {k : Nat} (hk : k < E.n) : St E { s with cd := setB s.cd k false } (w.setCell ⟨E.ad (.tx k), 17, none⟩ (.bool false)) := by
  have ht := h.loc (.tx k) hk
  refine h.txn W hk ((Kp.refl (fun b => b = E.ad (.tx k)) w).setCell (p := ⟨E.ad (.tx k), 17, none⟩) (fun _ => rfl) _) ((ht.1.set 17 (by omega) (.bool false)).congr fun j hj => ?_) (ht.2.setCell _ _ _) (fun _ _ => rfl) (fun _ _ => rfl) (fun _ _ => rfl) (fun j hj => by simp [setB, hj]) rfl rfl rfl rfl rfl rfl rfl
  show upd (txC _ _ _ _ _) 17 _ j = _
  rw [txC_cand _ _ _ _ _ _ j hj]
  simp only [txOf, setB, if_true]

theorem St.c206 {E : Env} {s : Sta} {w : World} (h : St E s w) : ∃ a cap, s.c 206 = .slice a s.L.length cap := by
  rcases h.hp.2 with ⟨h1, h2⟩ | ⟨g, cap, cur, h1, _⟩
  · exact ⟨none, 0, by rw [h1, h2]⟩
  · exact ⟨_, cap, h1⟩
end Go.Proofs.YbulkbpdqGreat
