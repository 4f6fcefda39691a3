import Derived.Test.YbulkbpdqGreatTermL
namespace Go.Proofs.YbulkbpdqGreat
open Go.ChangeShapes Go.WideShapes Go.ChangeAt Go.RowKit
set_option linter.unusedVariables false

theorem unread_f (E : Env) (k : Nat) (s : Sta) : (s.unread E k).ph = s.ph ∧ (s.unread E k).wr = s.wr ∧ (s.unread E k).cd = s.cd ∧ (s.unread E k).ow = s.ow ∧ (s.unread E k).ve = s.ve ∧ (s.unread E k).c = s.c ∧ (s.unread E k).L = s.L ∧ (s.unread E k).m = s.m ∧ (s.unread E k).rd = setB s.rd k false := by
  unfold Sta.unread
  split
  · next j _ =>
    obtain ⟨f1, f2, f3, f4, f5, f6, f7, f8, f9, f10⟩ := forget_rd E j { s with rl := setO s.rl k none }
    exact ⟨f4, f2, f3, f5, f7, f8, f9, f10, rfl⟩
  · exact ⟨rfl, rfl, rfl, rfl, rfl, rfl, rfl, rfl, rfl⟩

theorem unread_rl {E : Env} {og : Nat → ByteArray} {k : Nat} {s : Sta} (hS : Shape E og s) (hk : k < E.n) (how : s.ow k = true) : ∀ r, r < E.n → (s.unread E k).rl r = if r = k then none else s.rl r := fun r hr => by
  have hrd := hS.rd k hk
  rw [how] at hrd
  unfold Sta.unread
  cases hs : E.src k with
  | none =>
    rw [hs] at hrd
    simp only [hrd]
    show s.rl r = _
    split
    · next e => subst e; rw [hS.rl r hr, hs]; simp
    · rfl
  | some j =>
    rw [hs] at hrd
    simp only [hrd, Bool.true_and, Option.isSome_some, if_true]
    rw [(forget_rd E j { s with rl := setO s.rl k none }).2.2.2.2.2.1]
    rfl

/-- The state behind a round of the range over the readers. -/
def Ranging (E : Env) (k : Nat) (s1 : Sta) (w1 : World) (itb : Nat) (wr : World) : Prop :=
  ∃ s2 F L clock seen, St E s2 wr ∧ Aged E k s1 s2 ∧ Iter ptr wr (E.ad (.mr k)) itb F L clock seen ∧ RdF E s2 k F ∧ (∀ p ∈ L, p.2.2 ∈ seen → p.2.1 ≠ rlv true) ∧ (∀ b, (s2.c 206).ownBlock = some b → b ≠ itb) ∧ (∀ b, (s2.c 11).ownBlock = some b → b ≠ itb) ∧ Kp E.Own w1 wr

theorem Ranging.same {E : Env} (W : E.Wf) {k : Nat} {s1 s2 : Sta} {w1 wr w' : World} {itb : Nat} {F : Nat → Option Value} {L : List (Nat × Value × Nat)} {clock : Nat} {seen : Array Nat} {nn : Nat} (hib : E.B ≤ itb)
    (h2 : St E s2 wr) (hA : Aged E k s1 s2) (hF : RdF E s2 k F) (hV : ∀ p ∈ L, p.2.2 ∈ seen → p.2.1 ≠ rlv true) (hs1 : ∀ b, (s2.c 206).ownBlock = some b → b ≠ itb) (hs2 : ∀ b, (s2.c 11).ownBlock = some b → b ≠ itb) (hK : Kp E.Own w1 wr)
    (hI : Iter ptr w' (E.ad (.mr k)) itb F L clock (seen.push nn)) (hKn : Kp (fun b => b = itb) wr w') : St E s2 w' ∧ Kp E.Own w1 w' := by
  refine ⟨h2.kept W hKn (fun l hl e => by have := W.lt l hl; omega) (fun b hb => hs1 b hb) (fun b hb => hs2 b hb), hK.trans (hKn.mono fun b hb => .inl (by omega))⟩

theorem leftN_set {L : List (Nat × Value × Nat)} {j : Nat} {b : Nat} {v v' : Value} {nn : Nat} (hj : L[j]? = some (b, v, nn)) (seen : Array Nat) : leftN (L.set j (b, v', nn)) seen = leftN L seen := by
  unfold leftN
  have hjl := (List.getElem?_eq_some_iff.1 hj).1
  have e : (L.set j (b, v', nn)).map (·.2.2) = L.map (·.2.2) := by
    apply List.ext_getElem?
    intro i
    rw [List.getElem?_map, List.getElem?_map, List.getElem?_set]
    by_cases hij : j = i
    · subst hij; simp only [hjl, if_true, hj, Option.map_some]
    · simp [hij]
  rw [e]

theorem born_inj {L : List (Nat × Value × Nat)} (h : (L.map (·.2.2)).Nodup) {i j : Nat} {p q : Nat × Value × Nat} (hi : L[i]? = some p) (hj : L[j]? = some q) (he : p.2.2 = q.2.2) : i = j := by
  have hil := (List.getElem?_eq_some_iff.1 hi).1
  have hjl := (List.getElem?_eq_some_iff.1 hj).1
  refine (List.getElem_inj (h₀ := by simpa using hil) (h₁ := by simpa using hjl) h).1 ?_
  have h1 := (List.getElem?_eq_some_iff.1 hi).2
  have h2 := (List.getElem?_eq_some_iff.1 hj).2
  simp [h1, h2, he]

theorem rlv_ne : rlv false ≠ rlv true := by
  unfold rlv rlNewB rlOldB
  intro h
  injection h with h
  injection h with h
  simp at h

theorem ranged_old {L : List (Nat × Value × Nat)} {seen : Array Nat} (hb : (L.map (·.2.2)).Nodup) (hV : ∀ p ∈ L, p.2.2 ∈ seen → p.2.1 ≠ rlv true) {j b nn : Nat} (hj : L[j]? = some (b, rlv false, nn)) : ∀ p ∈ L, p.2.2 ∈ seen.push nn → p.2.1 ≠ rlv true := fun p hp hs => by
  obtain ⟨i, hi⟩ := List.getElem?_of_mem hp
  rcases Array.mem_push.1 hs with hs | hs
  · exact hV p hp hs
  · have := born_inj hb hi hj hs
    subst this
    rw [hj] at hi; cases hi; exact rlv_ne
theorem ranged_new {L : List (Nat × Value × Nat)} {seen : Array Nat} (hb : (L.map (·.2.2)).Nodup) (hV : ∀ p ∈ L, p.2.2 ∈ seen → p.2.1 ≠ rlv true) {j b nn : Nat} {v : Value} (hj : L[j]? = some (b, v, nn)) : ∀ p ∈ L.set j (b, rlv false, nn), p.2.2 ∈ seen.push nn → p.2.1 ≠ rlv true := fun p hp hs => by
  have hjl := (List.getElem?_eq_some_iff.1 hj).1
  obtain ⟨i, hi⟩ := List.getElem?_of_mem hp
  rw [List.getElem?_set] at hi
  by_cases hij : j = i
  · subst hij; simp [hjl] at hi; rw [← hi]; exact rlv_ne
  · simp [hij] at hi
    rcases Array.mem_push.1 hs with hs | hs
    · exact hV p (List.mem_of_getElem? hi) hs
    · exact absurd (born_inj hb hi hj hs).symm hij

set_option maxRecDepth 100000 in
set_option maxHeartbeats 4000000 in
theorem term_any (E : Env) (W : E.Wf) (og : Nat → ByteArray) (s : Sta) (k : Nat) (hk : k < E.n) (w : World) (h : St E s w) (hS : Shape E og s) (how : s.ow k = true) (hsrc : ∀ j, E.src k = some j → s.ow j = false) (hm : s.m ≤ 400) :
    Calls Ybaz.prog 29 #[ptr (E.ad .sch), ptr (E.ad (.tx k))] w fun e w' => e = .returned (.tuple #[]) ∧ ∃ s', TermTo E og k s s' ∧ St E s' w' ∧ Kp E.Own w w' := by
  have hp : s.rd k = true → ∃ j, E.src k = some j ∧ s.rl k = some false ∧ s.ow j = false := fun hr => by
    rw [hS.rd k hk, how] at hr
    obtain ⟨j, hj⟩ := Option.isSome_iff_exists.1 (by simpa using hr : (E.src k).isSome = true)
    have h1 := hsrc j hj
    exact ⟨j, hj, by rw [hS.rl k hk, how, hj]; simp [h1], h1⟩
  unfold ptr
  go_enter Ybaz.func29, Ybaz.ntmps29
  go_wp2_with fail
  refine (unread_any E W s k hk w h hp).mono ?_
  rintro e w1 ⟨rfl, h1, hK1⟩
  have hf := unread_f E k s
  have hrl := unread_rl hS hk how
  have hit := unread_it hS hk how hsrc
  generalize s.unread E k = s1 at h1 hf hrl hit
  have HIT : Hid _ := hit
  have HF : Hid _ := hf
  have HRL : Hid _ := hrl
  have t1 := h1.loc (.tx k) hk
  have t16 : w1.cell? ⟨E.ad (.tx k), 16, none⟩ = some (.slice (some ⟨E.ad (.ws k), 0, none⟩) 1 1) := (t1.1.1 16 (by omega)).trans (by
    show some (one (s1.wr k) _) = _
    rw [hf.2.1, hS.wr k hk, how]; rfl)
  have htl := t1.1.lt (by omega)
  have hws : Blk w1 (E.ad (.ws k)) 1 (fun _ => ptr (E.ad (.im k))) := h1.loc (.ws k) hk
  have r0 : w1.cell? ⟨E.ad (.ws k), 0, none⟩ = some (.pointer (some ⟨E.ad (.im k), 0, none⟩)) := hws.1 0 (by omega)
  have hwl := hws.lt (by omega)
  have hI : Blk w1 (E.ad (.im k)) 3 (imOf E s1 k) := h1.loc (.im k) hk
  have i2 : w1.cell? ⟨E.ad (.im k), 2, none⟩ = some (.map (some (E.ad (.mr k)))) := hI.1 2 (by omega)
  have hIl := hI.lt (by omega)
  obtain ⟨F, ⟨LL, clock, hR⟩, hF⟩ : ∃ F, MapF ptr w1 (E.ad (.mr k)) F ∧ RdF E s1 k F := h1.loc (.mr k) hk
  have hrange := run_range_map (P := Ybaz.prog) w1 54 34 80 (E.ad (.mr k)) _ clock Ybaz.underlying54 hR.obj
  have hli : LInv E s1 := ⟨by rw [hf.2.2.2.2.2.2.1]; exact hS.li.nd, fun r hr => by rw [hf.2.2.2.2.2.2.1, hf.2.2.1]; exact hS.li.cd r hr⟩
  have HST : Hid (Ranging E k s1 w1 w1.heap.size (w1.alloc (.mapIter (some (E.ad (.mr k))) clock #[] clock))) := by
    obtain ⟨ms, hmo⟩ := h1.mo
    exact ⟨s1, F, LL, clock, #[], h1.alloc W _, Aged.refl hli, ⟨hR.block (Below.heap_alloc _ _ _ hR.lt), heap_alloc_new w1 _⟩, hF, fun p _ hp => by simp at hp, fun b hb => by have := (h1.hp.lt b hb).2; omega, fun b hb => by have := (hmo.lt b hb).2; omega, (Kp.refl _ w1).alloc _⟩
  have H1 : Hid (St E s1 w1) := h1
  have HK1 : Hid (Kp E.Own w w1) := hK1
  clear h1 hK1 hf hrl hit t1 hws hI hR hF hli h hp
  go_wp2_with fail
  refine wp_loop_rounds 2 ?_
  rw [rounds_succ]
  go_wp2_with fail
  obtain ⟨itb, hitb⟩ : ∃ itb, itb = w1.heap.size := ⟨_, rfl⟩
  rw [← hitb] at HST
  rw [← hitb]
  generalize World.alloc w1 _ = w2 at HST ⊢
  have hib : E.B ≤ itb := by rw [hitb]; exact H1.out.sz
  clear hitb hrange i2 r0 t16
  go_loopw [6] (fun _ wr => Ranging E k s1 w1 itb wr) (fun _ wr => restOf wr (E.ad (.mr k)) itb)
  case atStart => exact HST.out
  case round =>
    obtain ⟨s2, F2, L2, clock2, seen, h2, hA, hIt, hF2, hV, hs1, hs2, hK2⟩ := hrel
    rcases hIt.next 0 with ⟨hall, hnext⟩ | ⟨j, b, v, nn, w', hj, hnn, hnext, hentry, hIt', hKn, hsz⟩
    · have hend : ∀ r, r < E.n → E.src r = some k → s2.rl r ≠ some true := fun r hr hsr e => by
        have hFr := hF2.1 r hr
        rw [if_pos hsr, e] at hFr
        obtain ⟨nn, hn⟩ := (hIt.m.f _ _).1 hFr
        exact hV _ hn (hall _ hn) rfl
      have HTT : Hid (∀ s', s'.ph = setP s2.ph k termB → s'.rd = s2.rd → s'.wr = setB s2.wr k false → s'.cd = s2.cd → s'.ow = setB s2.ow k false → s'.rl = s2.rl → s'.it = (Sta.forget E k { s2 with ve := setB s2.ve k true, ow := setB s2.ow k false }).it → s'.ve = setB s2.ve k true → s'.L = s2.L → s'.m = s2.m + 1 → TermTo E og k s s') := fun s' q1 q2 q3 q4 q5 q6 q7 q8 q9 q10 => shape_term hS hk how hsrc HF.out HRL.out HIT.out hA hend q1 q2 q3 q4 q5 q6 q7 q8 q9 q10
      have hsm : s2.m ≤ 400 := by rw [hA.m, HF.out.2.2.2.2.2.2.2.1]; exact hm
      have hN : Blk wr (E.ad .sch) 209 s2.c := h2.loc .sch trivial
      have n4 : wr.cell? ⟨E.ad .sch, 4, none⟩ = some (.map (some (E.ad .mv))) := (hN.1 4 (by omega)).trans (by rw [h2.sch.c4])
      have hNl := hN.lt (by omega)
      have hI2 : Blk wr (E.ad (.im k)) 3 (imOf E s2 k) := h2.loc (.im k) hk
      have i0 : wr.cell? ⟨E.ad (.im k), 0, none⟩ = some (.string (E.nm k)) := hI2.1 0 (by omega)
      have hIl2 := hI2.lt (by omega)
      have ht2 := (h2.loc (.tx k) hk).1
      have t0 : wr.cell? ⟨E.ad (.tx k), 0, none⟩ = some (.int .u64 0) := ht2.1 0 (by omega)
      have htl2 := ht2.lt (by omega)
      obtain ⟨w3, hupd, h3, hK3⟩ := h2.drew.version W hk
      have HK3 : Hid (Kp E.Own w w3) := (HK1.out.trans hK2).drew.trans hK3
      have H3 : Hid (St E { s2 with ve := setB s2.ve k true } w3) := h3
      have hI3 : Blk w3 (E.ad (.im k)) 3 (imOf E { s2 with ve := setB s2.ve k true } k) := h3.loc (.im k) hk
      have j1 := hI3.1 1 (by omega)
      have g1 := hI3.2 1
      have hIl3 := hI3.lt (by omega)
      obtain ⟨h4, hK4⟩ := h3.unown W hk
      have HK4 : Hid (Kp E.Own w (w3.setCell ⟨E.ad (.im k), 1, none⟩ (.pointer none))) := HK3.out.trans hK4
      have H4 : Hid (St E { s2 with ve := setB s2.ve k true, ow := setB s2.ow k false } (w3.setCell ⟨E.ad (.im k), 1, none⟩ (.pointer none))) := h4
      clear hend hIt hV hall hs1 hs2 hK2 hA hF2 h2 hN hI2 ht2 h3 hK3 hI3 h4 hK4
      go_wp2_with fail
      go_region_with (go_at_call 46; refine (id_any (E.ad (.tx k)) 0 _ (by exact t0)).mono ?_; rintro e wy ⟨rfl, rfl⟩)
      all_goals
        clear hnext hupd n4 i0 t0
        go_wp2_with fail
        refine (forget_any E W _ k hk _ H4.out).mono ?_
        rintro e w5 ⟨rfl, h5, hK5⟩
        have HK5 : Hid (Kp E.Own w w5) := HK4.out.trans (hK5.mono fun b hb => .inr ⟨.mi, trivial, hb⟩)
        have hfg := forget_rd E k { s2 with ve := setB s2.ve k true, ow := setB s2.ow k false }
        have HTT2 : Hid (∀ s5 : Sta, s5 = Sta.forget E k { s2 with ve := setB s2.ve k true, ow := setB s2.ow k false } → ∀ v, TermTo E og k s { s5 with wr := setB s5.wr k false, ph := setP s5.ph k termB, c := upd (upd s5.c 11 v) 141 (.int .u32 1), m := s5.m + 1 }) := by
          intro s5 e v
          rw [← e] at hfg
          obtain ⟨f1, f2, f3, f4, f5, f6, f7, f8, f9, f10⟩ := hfg
          exact HTT.out _ (by show setP s5.ph k termB = _; rw [f4]) (by show s5.rd = _; rw [f1]) (by show setB s5.wr k false = _; rw [f2]) (by show s5.cd = _; rw [f3]) (by show s5.ow = _; rw [f5]) (by show s5.rl = _; rw [f6]) (by show s5.it = _; rw [e]) (by show s5.ve = _; rw [f7]) (by show s5.L = _; rw [f9]) (by show s5.m + 1 = _; rw [f10])
        obtain ⟨s5, hs5⟩ : ∃ s5, s5 = Sta.forget E k { s2 with ve := setB s2.ve k true, ow := setB s2.ow k false } := ⟨_, rfl⟩
        have HT5 : Hid (∀ v, TermTo E og k s { s5 with wr := setB s5.wr k false, ph := setP s5.ph k termB, c := upd (upd s5.c 11 v) 141 (.int .u32 1), m := s5.m + 1 }) := fun v => HTT2.out s5 hs5 v
        have hm5 : s5.m ≤ 400 := by rw [hs5, hfg.2.2.2.2.2.2.2.2.2]; exact hsm
        rw [← hs5] at h5
        clear hs5 hfg HTT2 HTT hK5 H4 H3
        have ht5 := (h5.loc (.tx k) hk).1
        have t16 := ht5.1 16 (by omega)
        have g16 := ht5.2 16
        have t14 := ht5.1 14 (by omega)
        have g14 := ht5.2 14
        have htl5 := ht5.lt (by omega)
        have t14b : (w5.setCell ⟨E.ad (.tx k), 16, none⟩ (.slice none 0 0)).cell? ⟨E.ad (.tx k), 14, none⟩ = some (txOf E s5 k 14) := (World.cell?_setCell_other _ _ _ _ (by simp)).trans t14
        have h6 := h5.noWrites W hk
        have h7 := h6.phase W hk
        have HK7 : Hid (Kp E.Own w ((w5.setCell ⟨E.ad (.tx k), 16, none⟩ (.slice none 0 0)).setCell ⟨E.ad (.tx k), 14, none⟩ (.string termB))) := (HK5.out.setCell (p := ⟨E.ad (.tx k), 16, none⟩) (fun _ => .inr ⟨.tx k, hk, rfl⟩) _).setCell (p := ⟨E.ad (.tx k), 14, none⟩) (fun _ => .inr ⟨.tx k, hk, rfl⟩) _
        have H7 : Hid (St E { s5 with wr := setB s5.wr k false, ph := setP s5.ph k termB } ((w5.setCell ⟨E.ad (.tx k), 16, none⟩ (.slice none 0 0)).setCell ⟨E.ad (.tx k), 14, none⟩ (.string termB))) := h7
        have hNl5 := h5.lt W (l := .sch) trivial
        clear h5 h6 h7 ht5
        unfold termB at H7 HK7
        go_wp2_with fail
        rw [rounds_succ]
        go_wp2_with fail
        generalize World.setCell (World.setCell w5 _ _) _ _ = w7 at H7 HK7 ⊢
        obtain ⟨ms, hmo⟩ := H7.out.mo
        have ht7 : Blk w7 (E.ad (.tx k)) 19 _ := (H7.out.loc (.tx k) hk).1
        refine (fterm_any E.B (E.ad .sch) s5.m (E.ad (.tx k)) s5.c ms w7 (H7.out.loc .sch trivial) (W.lt .sch trivial) H7.out.sz hmo (by omega) H7.out.sch.c5 (ht7.1 0 (by omega)) (fun e => by have := W.inj _ _ (show E.ok (.tx k) from hk) (show E.ok .sch from trivial) e; cases this)).mono ?_
        rintro e w8 ⟨rfl, hMK⟩
        obtain ⟨v, h8, hK8⟩ := H7.out.moved W hMK
        have HG : Hid (∃ s', TermTo E og k s s' ∧ St E s' w8 ∧ Kp E.Own w w8) := ⟨_, HT5.out v, h8, HK7.out.trans hK8⟩
        clear h8 hK8 hMK hmo ht7
        go_wp2_with fail
        go_end0
        exact ⟨rfl, HG.out⟩
    · obtain ⟨h2', hK2'⟩ := Ranging.same W hib h2 hA hF2 hV hs1 hs2 hK2 hIt' hKn
      have hFb : F2 b = some v := (hIt.m.f b v).2 ⟨nn, List.mem_of_getElem? hj⟩
      obtain ⟨r, hr, rfl⟩ := hF2.2 b (by rw [hFb]; rfl)
      have hFr := hF2.1 r hr
      rw [hFb] at hFr
      have hsr : E.src r = some k := by
        by_cases e : E.src r = some k
        · exact e
        · rw [if_neg e] at hFr; cases hFr
      rw [if_pos hsr] at hFr
      cases hx : s2.rl r with
      | none => rw [hx] at hFr; cases hFr
      | some x =>
        rw [hx] at hFr
        injection hFr with hFr
        subst hFr
        have hmeas : leftN L2 (seen.push nn) < leftN L2 seen := leftN_push (List.mem_of_getElem? hj) hnn
        have hm1 := hIt.rest
        cases x with
        | false =>
          have HG : Hid (Ranging E k s1 w1 itb w' ∧ restOf w' (E.ad (.mr k)) itb < restOf wr (E.ad (.mr k)) itb) := ⟨⟨s2, F2, L2, clock2, _, h2', hA, hIt', hF2, ranged_old hIt.m.bnd hV hj, hs1, hs2, hK2'⟩, by rw [hm1, hIt'.rest]; exact hmeas⟩
          clear h2 hA hIt hF2 hV hs1 hs2 hK2 h2' hK2' hIt' hKn hsz hmeas hm1 hFb hj hnn hx
          unfold rlv rlOldB ptr at hnext hentry
          go_wp2_with fail
          go_roundw
          case rel => exact HG.out.1
          case measure => exact HG.out.2
        | true =>
          have hI' : Blk w' (E.ad (.im k)) 3 (imOf E s2 k) := h2'.loc (.im k) hk
          have i2' : w'.cell? ⟨E.ad (.im k), 2, none⟩ = some (.map (some (E.ad (.mr k)))) := hI'.1 2 (by omega)
          have hIl' := hI'.lt (by omega)
          obtain ⟨w3, hupd, hR3, hK3, hs3⟩ := hIt'.m.update_hit ptrKey Ybaz.underlying54 hj (rlv false) (h2'.goodKeys hF2)
          have hF3 := hF2.set W hr hsr (some false)
          have h3 := h2'.reader W hk hr hsr (some false) hK3 ⟨_, _, hR3⟩ hF3
          have hne : E.ad (.mr k) ≠ itb := by have := W.lt (.mr k) hk; omega
          have hIt3 : Iter ptr w3 (E.ad (.mr k)) itb (updF F2 (E.ad (.tx r)) (some (rlv false))) (L2.set j (E.ad (.tx r), rlv false, nn)) clock2 (seen.push nn) := ⟨hR3, (hK3.block itb hIt'.lt (fun e => hne e.symm)).trans hIt'.i⟩
          have hln : s2.L.length ≤ 1000 := by have := nodup_len E.n s2.L hA.li.nd h2.ix; have := W.n; omega
          have HH : Hid (∀ s4 w4, Cand { s2 with rl := setO s2.rl r (some false) } r s4 → St E s4 w4 → Kp (fun b => b = E.ad .sch ∨ b = E.ad (.tx r) ∨ (s2.c 206).ownBlock = some b) w3 w4 → Moved w3 (s2.c 206) (s4.c 206) → Ranging E k s1 w1 itb w4 ∧ restOf w4 (E.ad (.mr k)) itb < restOf wr (E.ad (.mr k)) itb) := fun s4 w4 hC h4 hK4 hM4 => by
            have hIt4 : Iter ptr w4 (E.ad (.mr k)) itb (updF F2 (E.ad (.tx r)) (some (rlv false))) (L2.set j (E.ad (.tx r), rlv false, nn)) clock2 (seen.push nn) := by
              refine hIt3.block (hK4.block _ hR3.lt (fun e => ?_)) (hK4.block _ hIt3.lt (fun e => ?_))
              · rcases e with e | e | e
                · have := W.inj _ _ (show E.ok (.mr k) from hk) (show E.ok .sch from trivial) e; cases this
                · have := W.inj _ _ (show E.ok (.mr k) from hk) (show E.ok (.tx r) from hr) e; cases this
                · have := (h2.hp.lt _ e).1; have := W.lt (.mr k) hk; omega
              · rcases e with e | e | e
                · have := W.lt .sch trivial; omega
                · have := W.lt (.tx r) hr; omega
                · exact hs1 itb e rfl
            have hrl4 : s4.rl = setO s2.rl r (some false) ∧ s4.c 11 = s2.c 11 := by
              rcases hC with ⟨_, rfl⟩ | ⟨_, V, L, _, rfl⟩
              · exact ⟨rfl, rfl⟩
              · exact ⟨rfl, upd_other s2.c V (show (11 : Nat) ≠ 206 by omega)⟩
            refine ⟨⟨s4, _, _, clock2, _, h4, hA.step hr hsr hx hC, hIt4, ⟨fun i hi => by rw [hrl4.1]; exact hF3.1 i hi, hF3.2⟩, ranged_new hIt.m.bnd hV hj, fun b hb => ?_, fun b hb => hs2 b (by rw [← hrl4.2]; exact hb), (hK2'.trans (hK3.mono fun b hb => .inr ⟨.mr k, hk, hb⟩)).trans (hK4.mono fun b hb => ?_)⟩, ?_⟩
            · rcases hM4 with e | ⟨g, e1, e2⟩
              · exact hs1 b (by rw [← e]; exact hb)
              · rw [hb] at e1; cases e1
                have := hIt3.lt; omega
            · rcases hb with e | e | e
              · exact .inr ⟨.sch, trivial, e⟩
              · exact .inr ⟨.tx r, hr, e⟩
              · exact .inl (h2.hp.lt b e).1
            · rw [hm1, hIt4.rest, leftN_set hj]; exact hmeas
          have H3 : Hid (St E { s2 with rl := setO s2.rl r (some false) } w3) := h3
          clear h2 hA hIt hF2 hV hs1 hs2 hK2 h2' hK2' hIt' hKn hsz hmeas hm1 hFb hnn hI' hR3 hK3 hF3 h3 hIt3 hne
          unfold rlv rlNewB rlOldB ptr at hupd
          unfold rlv rlNewB ptr at hnext hentry
          go_wp2_with fail
          refine (cand_any E W { s2 with rl := setO s2.rl r (some false) } r hr hln w3 H3.out).mono ?_
          rintro e w4 ⟨rfl, s4, hC, h4, hK4, hM4⟩
          have HG : Hid (Ranging E k s1 w1 itb w4 ∧ restOf w4 (E.ad (.mr k)) itb < restOf wr (E.ad (.mr k)) itb) := HH.out s4 w4 hC h4 hK4 hM4
          clear hC h4 hK4 hM4
          go_wp2_with fail
          go_roundw
          case rel => exact HG.out.1
          case measure => exact HG.out.2
end Go.Proofs.YbulkbpdqGreat
