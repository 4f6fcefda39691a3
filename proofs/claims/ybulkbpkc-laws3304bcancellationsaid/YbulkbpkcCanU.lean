import Derived.Test.YbulkbpkcCanT
namespace Go.Proofs.Ybulkbpkc
open Go.ChangeShapes Go.WideShapes Go.ChangeAt Go.RowKit
set_option linter.unusedVariables false

set_option maxRecDepth 100000 in
set_option maxHeartbeats 8000000 in
/-- Areas are named: for each, its cells that are in the set. -/
theorem cancel_tais (N R S R1 R2 : Nat) (cN cR cS : Nat → Value) (msg ser cb : Int) (E : Value) (hE : ∃ a n c, E = .slice a n c) (A : Int → List Int) (H : Int → Bool) (TL : List Int) (b0 : Nat) (w : World) (hN : Blk w N 23 cN) (hR : Blk w R 6 cR) (hS : Blk w S 2 cS) (h5 : cN 5 = .int .u16 cb) (h6 : cN 6 = E) (h10 : cN 10 = .map (some R1)) (h0 : cR 0 = .int .u16 msg) (h1 : cR 1 = .int .u16 ser) (hs1 : cS 1 = .map (some R2))
    (hrow : w.ownsRow b0 63 3 (cR 4) TL.length (TL.flatMap cT)) (hl : TL.length ≤ 1024) (hl0 : 0 < TL.length) (hTL : ∀ t ∈ TL, 0 ≤ t ∧ t < 4)
    (hA : ∀ t, 0 ≤ t → t < 4 → ∃ v, (∀ w', Below w.heap.size w w' → Sem.run Yba.prog (Instr.lookup 25 (.map (some R1)) (K16 t) false) w' = .ok v w') ∧ w.ownsRow b0 68 3 v (A t).length ((A t).flatMap cE))
    (hAl : ∀ t, (A t).length ≤ 1024)
    (hH : ∀ e w', Below w.heap.size w w' → Sem.run Yba.prog (Instr.lookup 71 (.map (some R2)) (K32 e) false) w' = .ok (.bool (H e)) w') :
    Calls Yba.prog 7 #[.pointer (some ⟨N, 0, none⟩), .pointer (some ⟨R, 0, none⟩), .pointer (some ⟨S, 0, none⟩)] w fun e w' => ∃ I T OV, e = .returned (.pointer (some ⟨I, 0, none⟩)) ∧ w.heap.size ≤ I ∧ Blk w' I 5 (indC msg ser (.slice none 0 0) T E) ∧ OutSt w.heap.size cb T OV w' ∧ OV.map (fun x => (x.1, x.2.1)) = named A H TL ∧ Below w.heap.size w w' := by
  obtain ⟨ea, en, ec, rfl⟩ := hE
  have hNl := hN.lt (by omega)
  have hRl := hR.lt (by omega)
  have hSl := hS.lt (by omega)
  obtain ⟨la, lc, hVL, hread⟩ := row_read cT (fun _ => rfl) hrow
  have c5 : w.cell? ⟨N, 5, none⟩ = some (.int .u16 cb) := (hN.1 5 (by omega)).trans (by rw [h5])
  have c6 : w.cell? ⟨N, 6, none⟩ = some (.slice ea en ec) := (hN.1 6 (by omega)).trans (by rw [h6])
  have c10 : w.cell? ⟨N, 10, none⟩ = some (.map (some R1)) := (hN.1 10 (by omega)).trans (by rw [h10])
  have r0 : w.cell? ⟨R, 0, none⟩ = some (.int .u16 msg) := (hR.1 0 (by omega)).trans (by rw [h0])
  have r1 : w.cell? ⟨R, 1, none⟩ = some (.int .u16 ser) := (hR.1 1 (by omega)).trans (by rw [h1])
  have r4 : w.cell? ⟨R, 4, none⟩ = some (.slice la TL.length lc) := (hR.1 4 (by omega)).trans (by rw [hVL])
  have q1 : w.cell? ⟨S, 1, none⟩ = some (.map (some R2)) := (hS.1 1 (by omega)).trans (by rw [hs1])
  have HRD : Hid _ := hread
  have HA : Hid _ := hA
  have HH : Hid _ := hH
  clear hread hrow hVL hA hH
  have hne : ((TL.length : Int) == 0) = false := by rw [beq_eq_false_iff_ne]; omega
  obtain ⟨i0, hi, hz0, hz1, hz2⟩ := info_parts Yba.infoC
  obtain ⟨i1, hi1, hz01, hz11, hz21⟩ := info_parts Yba.infoI
  go_enter Yba.func7, Yba.ntmps7
  go_wp2_with fail
  go_region
  have hI := (ind_fresh (w.alloc (.cells #[.pointer (some ⟨N, 0, none⟩)] 24)) msg ser (.slice ea en ec)).drew
  have hCb := ((Blk.fresh w #[.pointer (some ⟨N, 0, none⟩)] 24).alloc (by simp) (.cells #[.int .u16 msg, .int .u16 ser, .slice none 0 0, .slice none 0 0, .slice ea en ec] 83)).drew
  rw [World.size_alloc] at hI
  have hHd : HeadSt w N w.heap.size (w.heap.size + 1) msg ser (.slice none 0 0) (.slice none 0 0) (.slice ea en ec) ((w.alloc (.cells #[.pointer (some ⟨N, 0, none⟩)] 24)).alloc (.cells #[.int .u16 msg, .int .u16 ser, .slice none 0 0, .slice none 0 0, .slice ea en ec] 83)).drew :=
    ⟨hCb.congr fun j hj => by have : j = 0 := by simpa using hj
                              subst this; rfl, hI, (((Below.refl _ _).alloc (Nat.le_refl _) _).alloc (by simp) _).drew, ⟨Nat.le_refl _, by omega, by simp⟩⟩
  clear hI hCb
  generalize World.drew _ = w1 at hHd ⊢
  have d4 : w1.cell? ⟨R, 4, none⟩ = some (.slice la TL.length lc) := (hHd.low.cell (p := ⟨R, 4, none⟩) hRl).trans r4
  go_wp2_with fail
  obtain ⟨Cb, hCb⟩ : ∃ Cb, Cb = w.heap.size := ⟨_, rfl⟩
  have HCb : Hid (Cb = w.heap.size) := hCb
  rw [← hCb] at hHd
  rw [← hCb]
  clear hCb d4
  obtain ⟨I, hI⟩ : ∃ I, I = Cb + 1 := ⟨_, rfl⟩
  have HI : Hid (I = Cb + 1) := hI
  rw [← hI] at hHd
  rw [← hI]
  clear hI
  go_loopw [68] (fun i wr => ∃ (k : Nat) (T : Value) (OV : List AreaOut), k ≤ TL.length ∧ i = .int .i64 k ∧ HeadSt w N Cb I msg ser (.slice none 0 0) T (.slice ea en ec) wr ∧ OutSt (I + 1) cb T OV wr ∧ OV.map (fun x => (x.1, x.2.1)) = named A H (TL.take k)) (fun i _ => TL.length - (intOf i).toNat)
  case atStart => exact ⟨0, _, [], by omega, rfl, hHd, ⟨World.ownsRow_nil _ _ _ _, (by intro x hx; cases hx), (by intro x hx; cases hx)⟩, rfl⟩
  case round =>
    clear hHd
    obtain ⟨k, T, OV, hk, rfl, hHd, hO, hOV⟩ := hrel
    by_cases hlt : k < TL.length
    · obtain ⟨wo, rfl⟩ : ∃ wo, wo = wr := ⟨_, rfl⟩
      obtain ⟨t, ht⟩ : ∃ t, TL[k]? = some t := ⟨_, List.getElem?_eq_getElem hlt⟩
      obtain ⟨g, rfl, hgl, hcells⟩ := HRD.out k t ht
      obtain ⟨ht0, ht4⟩ := hTL t (List.mem_of_getElem? ht)
      obtain ⟨v, hlook, hvrow⟩ := HA.out t ht0 ht4
      have HT : Hid _ := ht
      have hgr : g < wo.heap.size := Nat.lt_of_lt_of_le hgl hHd.low.size
      have y0 : wo.cell? ⟨g, k * 3, none⟩ = some (.string s1) := (hHd.low.cell (p := ⟨g, k * 3, none⟩) hgl).trans (hcells 0 (by omega))
      have y1 : wo.cell? ⟨g, k * 3 + 1, none⟩ = some (.string s2) := (hHd.low.cell (p := ⟨g, k * 3 + 1, none⟩) hgl).trans (hcells 1 (by omega))
      have y2 : wo.cell? ⟨g, k * 3 + 2, none⟩ = some (.int .u16 t) := (hHd.low.cell (p := ⟨g, k * 3 + 2, none⟩) hgl).trans (hcells 2 (by omega))
      clear hcells ht
      have hk0 : (0 : Int) ≤ (k : Int) := by omega
      have hk7 : (k : Int) < (TL.length : Int) := by omega
      obtain ⟨va, vc, rfl, hvread⟩ := row_read cE (fun _ => rfl) hvrow
      have HVR : Hid _ := hvread
      have hAt := hAl t
      clear hvread hvrow
      go_wp2_with fail
      have hP := (Blk.fresh wo #[.string s1, .string s2, .int .u16 t] 63).alloc (by simp) (.cells #[.string s1, .string s2, .int .u16 t, .slice none 0 0] 88)
      have hD := in_fresh (wo.alloc (.cells #[.string s1, .string s2, .int .u16 t] 63)) t
      rw [World.size_alloc] at hD
      have hB2 : Below wo.heap.size wo ((wo.alloc (.cells #[.string s1, .string s2, .int .u16 t] 63)).alloc (.cells #[.string s1, .string s2, .int .u16 t, .slice none 0 0] 88)) := ((Below.refl _ _).alloc (Nat.le_refl _) _).alloc (by simp) _
      have hs2 : ((wo.alloc (.cells #[.string s1, .string s2, .int .u16 t] 63)).alloc (.cells #[.string s1, .string s2, .int .u16 t, .slice none 0 0] 88)).heap.size = wo.heap.size + 1 + 1 := by simp
      obtain ⟨P, hPe⟩ : ∃ P, P = wo.heap.size := ⟨_, rfl⟩
      have HP : Hid (P = wo.heap.size) := hPe
      have hIn : InSt wo (P + 1) (P + 1 + 1) t (.slice none 0 0) cb [] ((wo.alloc (.cells #[.string s1, .string s2, .int .u16 t] 63)).alloc (.cells #[.string s1, .string s2, .int .u16 t, .slice none 0 0] 88)) :=
        ⟨by rw [hPe]; exact hD, World.ownsRow_nil _ _ _ _, hB2, ⟨by omega, by omega, by omega⟩⟩
      rw [← hPe] at hP
      rw [← hPe]
      clear hD y0 y1 y2 hs2 hPe
      generalize World.alloc (World.alloc wo _) _ = w2 at hP hIn hB2 ⊢
      have hH2 := hHd.later hB2
      have e0 : w2.cell? ⟨Cb, 0, none⟩ = some (.pointer (some ⟨N, 0, none⟩)) := hH2.c.1 0 (by omega)
      have e10 : w2.cell? ⟨N, 10, none⟩ = some (.map (some R1)) := (hH2.low.cell (p := ⟨N, 10, none⟩) hNl).trans c10
      have p0 : w2.cell? ⟨P, 0, none⟩ = some (.string s1) := hP.1 0 (by simp)
      have p1 : w2.cell? ⟨P, 1, none⟩ = some (.string s2) := hP.1 1 (by simp)
      have p2 : w2.cell? ⟨P, 2, none⟩ = some (.int .u16 t) := hP.1 2 (by simp)
      have hlk : ∀ n, Sem.run Yba.prog (Instr.lookup 25 (.map (some R1)) (.agg #[.string s1, .string s2, .int .u16 t]) false) (w2.drewN n) = .ok (.slice va (A t).length vc) (w2.drewN n) := fun n => hlook _ (hH2.low.trans ⟨rfl, rfl, rfl, Nat.le_refl _, fun _ _ => rfl⟩)
      clear hlook
      go_quiet (fail)
      go_wp2_with fail
      have hIq := hIn.drewN nq
      clear hIn e0 e10 p0 p1 p2 hlk hP hB2 hH2
      go_loopw [81] (fun i wq => ∃ (j : Nat) (V : Value), j ≤ (A t).length ∧ i = .int .i64 j ∧ InSt wo (P + 1) (P + 1 + 1) t V cb (((A t).take j).filter H) wq) (fun i _ => (A t).length - (intOf i).toNat)
      case atStart => exact ⟨0, _, by omega, rfl, hIq⟩
      case round =>
        clear hIq
        obtain ⟨j, V, hj, rfl, hIq⟩ := hrel
        have hHq := hHd.later hIq.low
        by_cases hjl : j < (A t).length
        · obtain ⟨x, hx⟩ : ∃ x, (A t)[j]? = some x := ⟨_, List.getElem?_eq_getElem hjl⟩
          obtain ⟨g2, rfl, hg2, hcells⟩ := HVR.out j x hx
          have HX : Hid _ := hx
          have hg2r : g2 < wr.heap.size := Nat.lt_of_lt_of_le hg2 hHq.low.size
          have y0 : wr.cell? ⟨g2, j * 3, none⟩ = some (.string s1) := (hHq.low.cell (p := ⟨g2, j * 3, none⟩) hg2).trans (hcells 0 (by omega))
          have y1 : wr.cell? ⟨g2, j * 3 + 1, none⟩ = some (.string s2) := (hHq.low.cell (p := ⟨g2, j * 3 + 1, none⟩) hg2).trans (hcells 1 (by omega))
          have y2 : wr.cell? ⟨g2, j * 3 + 2, none⟩ = some (.int .u32 x) := (hHq.low.cell (p := ⟨g2, j * 3 + 2, none⟩) hg2).trans (hcells 2 (by omega))
          clear hcells hx
          have hj0 : (0 : Int) ≤ (j : Int) := by omega
          have hj7 : (j : Int) < ((A t).length : Int) := by omega
          go_wp2_with fail
          have hQ := (Blk.fresh wr #[.string s1, .string s2, .int .u32 x] 68)
          have hB3 : Below wr.heap.size wr (wr.alloc (.cells #[.string s1, .string s2, .int .u32 x] 68)) := (Below.refl _ _).alloc (Nat.le_refl _) _
          have hI3 := hIq.later hB3
          have hH3 := hHq.later hB3
          have hQl : wr.heap.size < (wr.alloc (.cells #[.string s1, .string s2, .int .u32 x] 68)).heap.size := by simp
          obtain ⟨Q, hQe⟩ : ∃ Q, Q = wr.heap.size := ⟨_, rfl⟩
          rw [← hQe] at hQ hQl
          rw [← hQe]
          have hord := hIq.ord
          have hDQ : P + 1 < Q := by omega
          clear hQe hB3 y0 y1 y2 hg2r hIq hHq
          generalize World.alloc wr _ = w4 at hQ hI3 hH3 hQl ⊢
          have p0 : w4.cell? ⟨Q, 0, none⟩ = some (.string s1) := hQ.1 0 (by simp)
          have p1 : w4.cell? ⟨Q, 1, none⟩ = some (.string s2) := hQ.1 1 (by simp)
          have p2 : w4.cell? ⟨Q, 2, none⟩ = some (.int .u32 x) := hQ.1 2 (by simp)
          have q11 : w4.cell? ⟨S, 1, none⟩ = some (.map (some R2)) := (hH3.low.cell (p := ⟨S, 1, none⟩) hSl).trans q1
          have hlk : ∀ n, Sem.run Yba.prog (Instr.lookup 71 (.map (some R2)) (.agg #[.string s1, .string s2, .int .u32 x]) false) (w4.drewN n) = .ok (.bool (H x)) (w4.drewN n) := fun n => HH.out x _ (hH3.low.trans ⟨rfl, rfl, rfl, Nat.le_refl _, fun _ _ => rfl⟩)
          go_quiet (fail)
          cases hHx : H x with
          | false =>
            have HF : Hid (InSt wo (P + 1) (P + 1 + 1) t V cb (((A t).take (j + 1)).filter H) (w4.drewN nq)) := by
              rw [filt_no H (A t) j x HX.out hHx]; exact hI3.drewN nq
            clear hI3 hH3 hlk
            go_wp2_with fail
            go_roundw
            case rel => exact ⟨j + 1, _, by omega, by go_num, HF.out⟩
            case measure => simp [intOf]; omega
          | true =>
            have hI5 := hI3.drewN nq
            have hH5 := hH3.later (w' := w4.drewN nq) ⟨rfl, rfl, rfl, Nat.le_refl _, fun _ _ => rfl⟩
            have hQ5 := hQ.drewN nq
            have hQl5 : Q < (w4.drewN nq).heap.size := hQl
            clear hI3 hH3 hlk hQ hQl p0 p1 p2 q11
            go_wp2_with fail
            generalize World.drewN w4 nq = w5 at hI5 hH5 hQ5 hQl5 ⊢
            have p0 : w5.cell? ⟨Q, 0, none⟩ = some (.string s1) := hQ5.1 0 (by simp)
            have p1 : w5.cell? ⟨Q, 1, none⟩ = some (.string s2) := hQ5.1 1 (by simp)
            have p2 : w5.cell? ⟨Q, 2, none⟩ = some (.int .u32 x) := hQ5.1 2 (by simp)
            have d3 : w5.cell? ⟨P + 1, 3, none⟩ = some V := hI5.d.1 3 (by omega)
            have hN5 : N < w5.heap.size := Nat.lt_of_lt_of_le hNl hH5.low.size
            have c55 : w5.cell? ⟨N, 5, none⟩ = some (.int .u16 cb) := (hH5.low.cell (p := ⟨N, 5, none⟩) hNl).trans c5
            have e5 : w5.cell? ⟨Cb, 0, none⟩ = some (.pointer (some ⟨N, 0, none⟩)) := hH5.c.1 0 (by omega)
            have hC5 : Cb < w5.heap.size := hH5.c.lt (by omega)
            have HI5 : Hid (InSt wo (P + 1) (P + 1 + 1) t V cb (((A t).take j).filter H) w5) := hI5
            have hml : (((A t).take j).filter H).length ≤ 1024 := Nat.le_trans (List.length_filter_le _ _) (by rw [List.length_take]; omega)
            have HMX : Hid (((A t).take (j + 1)).filter H = ((A t).take j).filter H ++ [x]) := filt_yes H (A t) j x HX.out hHx
            generalize ((A t).take j).filter H = m at HI5 hml HMX
            clear hI5 hQ5 hH5
            go_region_law ((first
              | (refine step_append_lies _ (by rfl) _ _ 80 (by rfl) (P + 1 + 1) 86 i0 _ 4 48 Yba.underlying80 hi hz0 hz1 hz2 rfl (by omega) V m.length (m.flatMap (cC cb)) (by rfl) ((HIX.out.row.alloc _)) ⟨wx.heap.size, 0, none⟩ 1 1 (cC cb x) (by rfl) (by rfl) (World.news_of_block (cs := #[.string s1, .string s2, .int .u32 x, .int .u16 cb]) (t := 86) (fr := (0, 0)) (heap_alloc_new wx _)) (by simp [cC, Value.oneCell']) (by omega) (by unfold maxLen; omega) (by omega) (by simp; have := HIX.out.ord; omega) (wx.heap.size + 1) (by simp) ?_; intro g' cap' w6 hown hgrow hgb hgl'; have HF : Hid _ := in_step HIX.out hown hgrow; have e3 : w6.cell? ⟨P + 1, 3, none⟩ = some V := HF.out.1.1 3 (by omega); have e3f := HF.out.1.2 3; clear hown hgrow hgb hgl')
              | (go_simp; go_at_call 9; refine (cancelled_any Cb N x cb _ (by exact e5) (by exact c55) (by exact hC5) (by exact hN5)).mono ?_; rintro e wx ⟨rfl, hBx⟩; have HIX : Hid (InSt wo (P + 1) (P + 1 + 1) t V cb m wx) := HI5.out.drew.later hBx; have d3x : wx.cell? ⟨P + 1, 3, none⟩ = some V := HIX.out.d.1 3 (by omega); have hDx : P + 1 < wx.heap.size := HIX.out.d.lt (by omega); clear hBx)))
            all_goals
              have HG : Hid (InSt wo (P + 1) (P + 1 + 1) t (.slice (some ⟨g', 0, none⟩) (m.length + 1) cap') cb (((A t).take (j + 1)).filter H) (w6.setCell ⟨P + 1, 3, none⟩ (.slice (some ⟨g', 0, none⟩) (m.length + 1) cap'))) := by
                rw [HMX.out]; exact HF.out.2
              clear HF e3 e3f
              go_wp2
              go_roundw
              case rel => exact ⟨j + 1, _, by omega, by go_num, HG.out⟩
              case measure => simp [intOf]; omega
        · obtain rfl : j = (A t).length := by omega
          have hHq2 := hHd.later hIq.low
          have hO2 := hO.later hIq.low
          rw [List.take_length] at hIq
          obtain ⟨m, hm⟩ : ∃ m, m = (A t).filter H := ⟨_, rfl⟩
          rw [← hm] at hIq
          have HM : Hid (m = (A t).filter H) := hm
          have hml : m.length ≤ 1024 := by rw [hm]; exact Nat.le_trans (List.length_filter_le _ _) hAt
          clear hm hHq
          obtain ⟨wa, wcap, rfl⟩ : ∃ a c, V = .slice a m.length c := by
            rcases hIq.row.2 with ⟨rfl, h0⟩ | ⟨g, cap, cur, rfl, _⟩
            · exact ⟨none, 0, by rw [h0]⟩
            · exact ⟨_, cap, rfl⟩
          have d3 : wr.cell? ⟨P + 1, 3, none⟩ = some (.slice wa m.length wcap) := hIq.d.1 3 (by omega)
          by_cases hm0 : m = []
          · have hz : m.length = 0 := by rw [hm0]; rfl
            have HR : Hid (HeadSt w N Cb I msg ser (.slice none 0 0) T (.slice ea en ec) wr ∧ OutSt (I + 1) cb T OV wr ∧ OV.map (fun x => (x.1, x.2.1)) = named A H (TL.take (k + 1))) := by
              refine ⟨hHq2, hO2, ?_⟩
              rw [named_snoc A H TL k t HT.out, if_pos (by rw [← HM.out, hm0]; rfl), List.append_nil]; exact hOV
            clear hIq hHq2 hO2
            rw [hz] at d3
            go_wp2_with fail
            go_roundw
            case rel => exact ⟨k + 1, T, OV, by omega, by go_num, HR.out⟩
            case measure => simp [intOf]; omega
          · have hz : 0 < m.length := List.length_pos_iff.2 hm0
            have hzi : (0 : Int) < (m.length : Int) := by omega
            have hol : OV.length ≤ 1024 := by
              have := congrArg List.length hOV
              rw [List.length_map] at this
              rw [this]
              unfold named
              exact Nat.le_trans (List.length_filter_le _ _) (by rw [List.length_map, List.length_take]; omega)
            have b0 : wr.cell? ⟨P + 1, 0, none⟩ = some (.string s1) := hIq.d.1 0 (by omega)
            have b1 : wr.cell? ⟨P + 1, 1, none⟩ = some (.string s2) := hIq.d.1 1 (by omega)
            have b2 : wr.cell? ⟨P + 1, 2, none⟩ = some (.int .u16 t) := hIq.d.1 2 (by omega)
            have i3 : wr.cell? ⟨I, 3, none⟩ = some T := hHq2.i.1 3 (by omega)
            have hIl : I < wr.heap.size := hHq2.ord.2.2
            have hDl : P + 1 < wr.heap.size := hIq.d.lt (by omega)
            have HV : Hid (wr.ownsRow (I + 1) 86 4 (.slice wa m.length wcap) m.length (m.flatMap (cC cb))) := owns_base hIq.row (by have := HP.out; have := hHd.ord; omega)
            have HH2 : Hid (HeadSt w N Cb I msg ser (.slice none 0 0) T (.slice ea en ec) wr) := hHq2
            have HO2 : Hid (OutSt (I + 1) cb T OV wr) := hO2
            clear hIq hHq2 hO2
            go_wp2_with fail
            go_region_law ((refine step_append_lies _ (by rfl) _ _ 81 (by rfl) (I + 1) 88 i1 _ 4 64 Yba.underlying81 hi1 hz01 hz11 hz21 rfl (by omega) T OV.length (OV.flatMap cI) (by rfl) ((HO2.out.row.alloc _).drew) ⟨wr.heap.size, 0, none⟩ 1 1 (cI (t, m, .slice wa m.length wcap)) (by rfl) (by rfl) (World.news_of_block (cs := #[.string s1, .string s2, .int .u16 t, .slice wa m.length wcap]) (t := 88) (fr := (0, 0)) (heap_alloc_new wr _)) (by simp [cI, Value.oneCell']) (by omega) (by unfold maxLen; omega) (by omega) (by simp; omega) (wr.heap.size + 1) (by simp) ?_; intro g' cap' w6 hown hgrow hgb hgl'; have HF : Hid _ := out_step HH2.out HO2.out HV.out rfl hown hgrow; have e3 : w6.cell? ⟨I, 3, none⟩ = some T := HF.out.1.1 3 (by omega); have e3f := HF.out.1.2 3; clear hown hgrow hgb hgl'))
            all_goals
              have HR : Hid (HeadSt w N Cb I msg ser (.slice none 0 0) (.slice (some ⟨g', 0, none⟩) (OV.length + 1) cap') (.slice ea en ec) (w6.setCell ⟨I, 3, none⟩ (.slice (some ⟨g', 0, none⟩) (OV.length + 1) cap')) ∧ OutSt (I + 1) cb (.slice (some ⟨g', 0, none⟩) (OV.length + 1) cap') (OV ++ [(t, m, .slice wa m.length wcap)]) (w6.setCell ⟨I, 3, none⟩ (.slice (some ⟨g', 0, none⟩) (OV.length + 1) cap')) ∧ (OV ++ [((t, m, Value.slice wa m.length wcap) : AreaOut)]).map (fun x => (x.1, x.2.1)) = named A H (TL.take (k + 1))) := by
                refine ⟨HF.out.2.1, HF.out.2.2, ?_⟩
                rw [named_snoc A H TL k t HT.out, if_neg (by rw [← HM.out]; simpa using hm0), List.map_append, hOV, ← HM.out]; rfl
              clear HF e3 e3f
              go_wp2
              go_roundw
              case rel => exact ⟨k + 1, _, _, by omega, by go_num, HR.out⟩
              case measure => simp [intOf]; omega
    · obtain rfl : k = TL.length := by omega
      have HR : Hid (∃ I' T OV, Value.pointer (some ⟨I, 0, none⟩) = .pointer (some ⟨I', 0, none⟩) ∧ w.heap.size ≤ I' ∧ Blk wr I' 5 (indC msg ser (.slice none 0 0) T (.slice ea en ec)) ∧ OutSt w.heap.size cb T OV wr ∧ OV.map (fun x => (x.1, x.2.1)) = named A H TL ∧ Below w.heap.size w wr) := by
        rw [List.take_length] at hOV
        have hle : w.heap.size ≤ I + 1 := by have := HCb.out; have := HI.out; omega
        exact ⟨I, T, OV, rfl, by have := HCb.out; have := HI.out; omega, hHd.i, ⟨owns_base hO.row hle, fun x hx => owns_base (hO.inner x hx) hle, hO.one⟩, hOV, hHd.low⟩
      clear hHd hO hOV
      go_wp2
      go_ret
      obtain ⟨I', T, OV, e1, h⟩ := HR.out
      exact ⟨I', T, OV, by rw [← e1]; rfl, h⟩
end Go.Proofs.Ybulkbpkc
