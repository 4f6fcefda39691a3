import Derived.Test.YbulkbpdqGreatInv
import Derived.Deep.LoopGhost
import Derived.Laws.StructEq
namespace Go.Proofs.YbulkbpdqGreat
open Go.ChangeShapes Go.WideShapes Go.ChangeAt Go.RowKit
set_option linter.unusedVariables false

set_option maxRecDepth 100000 in
set_option maxHeartbeats 4000000 in
theorem settle_all (E : Env) (W : E.Wf) (og : Nat → ByteArray) (s : Sta) (ag : Bool) (hag : E.st = stB ag) (w : World) (h : St E s w) (hI : Inv E og s) :
    Calls Ybaz.prog 11 #[ptr (E.ad .sch)] w fun e w' => e = .returned (.tuple #[]) ∧ ∃ s', Inv E og s' ∧ s'.L = [] ∧ St E s' w' ∧ Kp E.Own w w' := by
  have hn := W.n
  unfold ptr
  go_enter Ybaz.func11, Ybaz.ntmps11
  go_wp2_with fail
  refine wp_loop_rounds 1 ?_
  rw [rounds_succ]
  go_wp2_with fail
  go_loopg [2] (mu E s) (fun q _ wr => ∃ s1, q = mu E s1 ∧ Inv E og s1 ∧ St E s1 wr ∧ Kp E.Own w wr)
  case atStart => exact ⟨s, rfl, hI, h, Kp.refl _ _⟩
  case round =>
    obtain ⟨s1, rfl, hI1, h1, hK1⟩ := hrel
    have hN : Blk wr (E.ad .sch) 209 s1.c := h1.loc .sch trivial
    obtain ⟨a, cap, hc206⟩ := h1.c206
    have c206 : wr.cell? ⟨E.ad .sch, 206, none⟩ = some (.slice a s1.L.length cap) := (hN.1 206 (by omega)).trans (by rw [hc206])
    have hNl := hN.lt (by omega)
    have H1 : Hid (St E s1 wr) := h1
    have HI1 : Hid (Inv E og s1) := hI1
    have HK1 : Hid (Kp E.Own w wr) := hK1
    clear h1 hI1 hK1 hN hc206 h hI
    by_cases hL : 0 < s1.L.length
    · have hd : decide ((0 : Int) < (s1.L.length : Int)) = true := decide_eq_true (by omega)
      go_wp2_with fail
      refine (blen_any _ _ _ _).mono ?_
      rintro e w2 ⟨rfl, rfl⟩
      go_wp2_with fail
      have hlen : s1.L.length ≤ 1000 := by have := nodup_len E.n s1.L HI1.out.sh.li.nd H1.out.ix; omega
      refine (hpop_any E.B (E.ad .sch) s1.c _ w2 (H1.out.hs W) (by simpa using hL) (by simpa using hlen)).mono ?_
      rintro e w3 ⟨x, L', rfl, hp, V, hH, hK3, hV⟩
      obtain ⟨k, m0, rfl, rfl, hpm⟩ : ∃ k m0, x = E.ad (.tx k) ∧ L' = m0.map (fun k => E.ad (.tx k)) ∧ (m0 ++ [k]).Perm s1.L := by
        obtain ⟨m', e1, e2⟩ := perm_of_map (fun k => E.ad (.tx k)) hp.symm s1.L rfl
        rcases List.eq_nil_or_concat m' with e | ⟨m0, k, e⟩
        · rw [e] at e1; simp at e1
        · rw [List.concat_eq_append] at e
          rw [e, List.map_append] at e1
          have e3 := List.append_inj' e1 rfl
          simp at e3
          exact ⟨k, m0, e3.2, e3.1, by rw [← e]; exact e2⟩
      have hk : k < E.n := H1.out.ix k (hpm.mem_iff.1 (by simp))
      obtain ⟨h4, hK4⟩ := H1.out.popped W hpm hH hK3 hV
      have h5 := h4.uncand W hk
      have ht4 := (h4.loc (.tx k) hk).1
      have t17 := ht4.1 17 (by omega)
      have f17 := ht4.2 17
      have htl := ht4.lt (by omega)
      have hK5 : Kp E.Own w (w3.setCell ⟨E.ad (.tx k), 17, none⟩ (.bool false)) := (HK1.out.trans hK4).setCell (p := ⟨E.ad (.tx k), 17, none⟩) (fun _ => .inr ⟨.tx k, hk, rfl⟩) _
      have HPM : Hid ((m0 ++ [k]).Perm s1.L) := hpm
      have H5 : Hid (St E { s1 with L := m0, c := upd s1.c 206 V, cd := setB s1.cd k false } (w3.setCell ⟨E.ad (.tx k), 17, none⟩ (.bool false))) := h5
      have HK5 : Hid (Kp E.Own w (w3.setCell ⟨E.ad (.tx k), 17, none⟩ (.bool false))) := hK5
      have t14 : (w3.setCell ⟨E.ad (.tx k), 17, none⟩ (.bool false)).cell? ⟨E.ad (.tx k), 14, none⟩ = some (.string (s1.ph k)) := (H5.out.loc (.tx k) hk).1.1 14 (by omega)
      have hph := HI1.out.sh.ph k hk
      have HM : Hid (mu E { s1 with L := m0, c := upd s1.c 206 V, cd := setB s1.cd k false } + 1 = mu E s1) := (inv_pop HI1.out hk HPM.out).2
      have HSH : Hid (Shape E og { s1 with L := m0, c := upd s1.c 206 V, cd := setB s1.cd k false }) := (inv_pop HI1.out hk HPM.out).1
      clear hp hpm hH hK3 hV h4 hK4 h5 ht4 hK5 c206
      obtain ⟨s4, hs4⟩ : ∃ s4 : Sta, s4 = { s1 with L := m0, c := upd s1.c 206 V, cd := setB s1.cd k false } := ⟨_, rfl⟩
      rw [← hs4] at H5 HM HSH
      have HS4 : Hid (s4 = { s1 with L := m0, c := upd s1.c 206 V, cd := setB s1.cd k false }) := hs4
      have HOW : Hid (s4.ow = s1.ow ∧ s4.m = s1.m) := by rw [hs4]; exact ⟨rfl, rfl⟩
      clear hs4
      unfold ptr
      by_cases hcom : s1.ow k = true ∧ og k = comB
      · obtain ⟨how, hog⟩ := hcom
        have hpc : s1.ph k = ⟨#[99, 111, 109, 109, 105, 116, 116, 101, 100]⟩ := by rw [hph, how, if_pos rfl, hog]; rfl
        rw [hpc] at t14
        clear hpc hph
        by_cases hsrc : ∀ j, E.src k = some j → s1.ow j = false
        · go_wp2_with fail
          refine (precedes_none E W og s4 k hk HSH.out (by rw [HOW.out.1]; exact how) (fun j hj => by rw [HOW.out.1]; exact hsrc j hj) _ H5.out).mono ?_
          rintro e w5 ⟨rfl, hB5⟩
          have HB5 : Hid (St E s4 w5 ∧ Kp E.Own w w5) := ⟨H5.out.below W hB5, HK5.out.then hB5⟩
          clear hB5
          go_wp2_with fail
          refine (term_any E W og s4 k hk w5 HB5.out.1 HSH.out (by rw [HOW.out.1]; exact how) (fun j hj => by rw [HOW.out.1]; exact hsrc j hj) (by rw [HOW.out.2]; have := HI1.out.m; omega)).mono ?_
          rintro e w6 ⟨rfl, s', hT, h6, hK6⟩
          have HF : Hid ((Inv E og s' ∧ mu E s' < mu E s1) ∧ St E s' w6 ∧ Kp E.Own w w6) := ⟨inv_term W HI1.out hk how hog hsrc (by rw [← HS4.out]; exact hT) h6.ix, h6, HB5.out.2.trans hK6⟩
          clear hT h6 hK6
          go_wp2_with fail
          go_roundg (mu E s')
          case measure => exact HF.out.1.2
          case rel => exact ⟨s', rfl, HF.out.1.1, HF.out.2⟩
        · obtain ⟨j, hj, hoj⟩ : ∃ j, E.src k = some j ∧ s1.ow j = true := by
            cases hs : E.src k with
            | none => exact absurd (fun j hj => by rw [hs] at hj; cases hj) hsrc
            | some j =>
              refine ⟨j, rfl, ?_⟩
              cases ho : s1.ow j with
              | true => rfl
              | false => exact absurd (fun i hi => by rw [hs] at hi; cases hi; exact ho) hsrc
          have HNO : Hid (¬ (s1.ow k = true ∧ og k = comB ∧ ∀ j, E.src k = some j → s1.ow j = false)) := fun h => hsrc h.2.2
          clear hsrc
          go_wp2_with fail
          refine (precedes_some E W og s4 k hk HSH.out (by rw [HOW.out.1]; exact how) j hj (by rw [HOW.out.1]; exact hoj) _ H5.out).mono ?_
          rintro e w5 ⟨rfl, hB5⟩
          have HB5 : Hid (St E s4 w5 ∧ Kp E.Own w w5) := ⟨H5.out.below W hB5, HK5.out.then hB5⟩
          have HI4 : Hid (Inv E og s4) := by rw [HS4.out]; exact inv_stay HI1.out hk HPM.out HNO.out
          clear hB5
          go_wp2_with fail
          go_roundg (mu E s4)
          case measure => have := HM.out; omega
          case rel => exact ⟨s4, rfl, HI4.out, HB5.out⟩
      · have hne : s1.ph k ≠ comB := fun e => by
          rw [hph] at e
          cases ho : s1.ow k with
          | true => rw [ho, if_pos rfl] at e; exact hcom ⟨ho, e⟩
          | false =>
            rw [ho] at e
            simp only [comB] at e
            injection e with e
            simp at e
        have hb : ((s1.ph k).toList == [99, 111, 109, 109, 105, 116, 116, 101, 100]) = false := by
          have h1 : (s1.ph k == comB) = false := bytes_ne (fun e => hne e.symm)
          have h2 : comB.toList = [99, 111, 109, 109, 105, 116, 116, 101, 100] := by rw [ByteArray.toList_eq]; rfl
          rw [beq_toListBytes, h2] at h1
          exact h1
        have HI4 : Hid (Inv E og s4) := by rw [HS4.out]; exact inv_stay HI1.out hk HPM.out (fun h => hcom ⟨h.1, h.2.1⟩)
        clear hcom hph
        go_wp2_with fail
        go_roundg (mu E s4)
        case measure => have := HM.out; omega
        case rel => exact ⟨s4, rfl, HI4.out, H5.out, HK5.out⟩
    · have hL0 : s1.L = [] := List.length_eq_zero_iff.1 (by omega)
      have hd : decide ((0 : Int) < (s1.L.length : Int)) = false := decide_eq_false (by omega)
      have HL0 : Hid (s1.L = []) := hL0
      have hL1 : s1.L.length = 0 := by omega
      have hN : Blk wr (E.ad .sch) 209 s1.c := H1.out.loc .sch trivial
      have c2 : wr.cell? ⟨E.ad .sch, 2, none⟩ = some (.string (stB ag)) := (hN.1 2 (by omega)).trans (by rw [H1.out.sch.c2, hag])
      have c208 : wr.cell? ⟨E.ad .sch, 208, none⟩ = some (.pointer none) := (hN.1 208 (by omega)).trans (by rw [H1.out.sch.c208])
      have HN : Hid (Blk wr (E.ad .sch) 209 s1.c) := hN
      clear hL0 hN hL
      cases ag with
      | true =>
        unfold stB at c2
        go_wp2_with fail
        refine (blen_any _ _ _ _).mono ?_
        rintro e w2 ⟨rfl, rfl⟩
        go_wp2_with fail
        go_quiet (fail)
        go_wp2_with fail
        go_end0
        refine ⟨rfl, s1, HI1.out, HL0.out, H1.out.kept W (P := fun _ => False) ⟨rfl, rfl, rfl, Nat.le_refl _, fun _ _ _ => rfl⟩ (fun _ _ h => h) (fun _ _ h => h) (fun _ _ h => h), HK1.out.trans ⟨rfl, rfl, rfl, Nat.le_refl _, fun _ _ _ => rfl⟩⟩
      | false =>
        unfold stB at c2
        go_wp2_with fail
        refine (blen_any _ _ _ _).mono ?_
        rintro e w2 ⟨rfl, rfl⟩
        go_wp2_with fail
        refine (breakDeadlock_none (E.ad .sch) s1.c w2 HN.out H1.out.sch.c5 H1.out.sch.c7).mono ?_
        rintro e w3 ⟨rfl, hK3, hb3⟩
        have h3 : St E s1 w3 := H1.out.one W .sch trivial hK3 (fun l _ _ hh => hh) hb3 rfl rfl rfl
        have d208 : w3.cell? ⟨E.ad .sch, 208, none⟩ = some (.pointer none) := (hb3.1 208 (by omega)).trans (by rw [H1.out.sch.c208])
        have hNl3 := hb3.lt (by omega)
        have HF : Hid (St E s1 w3 ∧ Kp E.Own w w3) := ⟨h3, HK1.out.trans (hK3.mono fun b hb => .inr ⟨.sch, trivial, hb⟩)⟩
        clear h3 hK3 hb3
        go_wp2_with fail
        go_quiet (fail)
        go_wp2_with fail
        go_end0
        refine ⟨rfl, s1, HI1.out, HL0.out, HF.out.1.kept W (P := fun _ => False) ⟨rfl, rfl, rfl, Nat.le_refl _, fun _ _ _ => rfl⟩ (fun _ _ h => h) (fun _ _ h => h) (fun _ _ h => h), HF.out.2.trans ⟨rfl, rfl, rfl, Nat.le_refl _, fun _ _ _ => rfl⟩⟩
end Go.Proofs.YbulkbpdqGreat
