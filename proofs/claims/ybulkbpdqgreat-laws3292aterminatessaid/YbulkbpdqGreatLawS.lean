import Derived.Test.YbulkbpdqGreatSetC
import Derived.Deep.CutBlock
import Derived.Test.YbulkbpdqGreatLawF
namespace Go.Proofs.YbulkbpdqGreat
open Go.ChangeShapes Go.WideShapes Go.ChangeAt Go.RowKit
set_option linter.unusedVariables false

set_option maxRecDepth 1000000 in
set_option maxHeartbeats 8000000 in
/-- The law from its items on. -/
theorem law_set (D : Drawn) (ag : Bool) (w : World) (nb N MI MV TS OG SR : Nat) (c : Nat → Value) (w2 : World) (hP : Pre D ag nb N MI MV TS OG SR c w2) (hlow : Below w.heap.size w w2) (hw : w.heap.size ≤ nb ∧ w.heap.size ≤ N ∧ w.heap.size ≤ MI ∧ w.heap.size ≤ MV ∧ w.heap.size ≤ D.b1)
    (j0 j1 j8 j12 j33 j34 j35 j36 j37 j38 j39 j40 j41 j42 j43 j44 j45 j46 j47 j48 j49 j50 j51 j52 j53 j54 j55 j56 j57 j58 j59 j60 j61 j62 j63 j64 j65 j66 j67 j68 j69 j70 j71 j72 j73 j74 j75 j76 j77 j78 j79 j80 j81 j82 j83 j84 j85 j86 j87 j88 j89 j90 j91 j92 j93 j94 j95 j96 j97 j98 j99 j100 : Value) :
    Code.wp Ybaz.prog ((Ybaz.f3.body.bind (afterRegion 20)).getD .skip) (bodyPost Ybaz.prog Ybaz.f3 fun e w' => e = .returned (.bool true) ∧ Below w.heap.size w w')
      ⟨#[j0, j1, undef, undef, .bool false, .pointer (some ⟨nb, 0, none⟩), .string (stB ag), .pointer (some ⟨N, 0, none⟩), j8, .slice (some ⟨TS, 0, none⟩) D.n D.n, .slice (some ⟨OG, 0, none⟩) D.n D.n, .slice (some ⟨SR, 0, none⟩) D.n D.n, j12, .slice (some ⟨D.b1 + D.n, 0, none⟩) D.n D.n, undef, undef, undef, undef, undef, undef, undef, undef, undef, undef, undef, undef, undef, undef, undef, undef, undef, undef, undef, j33, j34, j35, j36, j37, j38, j39, j40, j41, j42, j43, j44, j45, j46, j47, j48, j49, j50, j51, j52, j53, j54, j55, j56, j57, j58, j59, j60, j61, j62, j63, j64, j65, j66, j67, j68, j69, j70, j71, j72, j73, j74, j75, j76, j77, j78, j79, j80, j81, j82, j83, j84, j85, j86, j87, j88, j89, j90, j91, j92, j93, j94, j95, j96, j97, j98, j99, j100, undef, undef, undef, undef, undef, undef, undef, undef, undef, undef, undef, undef, undef, undef, undef, undef, undef, undef, undef, undef, undef, undef, undef, undef, undef, undef, undef, undef, undef, undef, undef, undef, undef, undef, undef, undef, undef, undef, undef, undef, undef, undef, undef, undef, undef, undef, undef, undef, undef, undef, undef, undef, undef, undef, undef, undef, undef, undef, undef, undef, undef, undef, undef, undef, undef, undef, undef, undef, undef, undef, undef, undef, undef, undef, undef, undef, undef, undef, undef, undef, undef, undef, undef, undef, undef, undef, undef, undef, undef, undef, undef, undef, undef, undef, undef, undef, undef, undef, undef, undef, undef, undef, undef, undef, undef, undef, undef, undef, undef, undef, undef, undef, undef, undef, undef, undef, undef, undef, undef, undef, undef, undef, undef, undef, undef, undef, undef, undef, undef, undef, undef, undef, undef, undef, undef, undef, undef, undef, undef, undef, undef, undef, undef, undef, undef, undef, undef, undef, undef, undef, undef, undef, undef, undef, undef, undef, undef, undef, undef, undef, undef, undef, undef, undef, undef, undef, undef, undef, undef, undef, undef, undef, undef, undef, undef, undef, undef, undef, undef, undef, undef, undef, undef, undef, undef, undef, undef, undef, undef, undef, undef, undef, undef, undef, undef, undef, undef, undef, undef, undef, undef, undef, undef, undef, undef, undef, undef, undef, undef, undef, undef, undef, undef, undef, undef, undef, undef, undef, undef, undef, undef, undef, undef, undef, undef, undef, undef, undef, undef, undef, undef, undef, undef, undef, undef, undef, undef, undef, undef, undef, undef, undef, undef, undef, undef, undef, undef, undef, undef, undef, undef, undef, undef, undef, undef, undef, undef, undef, undef, undef, undef, undef, undef, undef, undef, undef, undef, undef, undef, undef, undef, undef, undef, undef, undef, undef, undef, undef, undef, undef, undef, undef, undef, undef, undef, undef, undef, undef, undef, undef, undef, undef, undef, undef, undef, undef, undef, undef, undef, undef, undef, undef, undef, undef, undef, undef, undef, undef, undef, undef, undef, undef, undef, undef, undef, undef, undef, undef, undef, undef, undef, undef, undef, undef, undef, undef, undef, undef], []⟩ w2 := by
  have hn := hP.n
  have HP : Hid (Pre D ag nb N MI MV TS OG SR c w2) := hP
  have hlt := hP.lt
  have hne := hP.ne
  have hmm := @run_makeMap Ybaz.prog
  have hb2 : D.b2 = D.b1 + D.n + 1 := rfl
  clear hP
  conv => arg 2; whnf
  go_upto_block 2 with fail
  go_cut [14, 15] from 101 to 135 (fun _ _ wr => ∃ R, P2 D MI w2 D.n R wr)
  case first =>
    as_aux_lemma =>
      go_wp2_with fail
      go_loopw [14] (fun v wr => ∃ (k : Nat) (R : Nat → Nat), k ≤ D.n ∧ v = .int .i64 k ∧ P2 D MI w2 k R wr) (fun v _ => D.n - (intOf v).toNat)
      case atStart => exact ⟨0, _, by omega, rfl, HP.out.p2⟩
      case round =>
        obtain ⟨k, R, hk, rfl, h2⟩ := hrel
        have hsz := h2.sz
        have hw2 : w2.heap.size = D.b2 := by have := HP.out.p2.sz; omega
        have nc : wr.cell? ⟨nb, 0, none⟩ = some (.int .i64 D.n) := (World.cell?_of_block (w := w2) (h2.kp.block nb (by omega) (by omega))).trans (HP.out.qn.1 0 (by omega))
        have hnl : nb < wr.heap.size := by omega
        by_cases hkl : k < D.n
        · have cTS : wr.cell? ⟨TS, k, none⟩ = some (.pointer (some ⟨D.b1 + k, 0, none⟩)) := (World.cell?_of_block (w := w2) (h2.kp.block TS (by omega) (by omega))).trans (HP.out.qt.1 k hkl)
          have hTSl : TS < wr.heap.size := by omega
          have hk3 : k < 300 := by omega
          have k0 : (0 : Int) ≤ (k : Int) := by omega
          have k1 : (k : Int) < (D.n : Int) := by omega
          have H2 : Hid (P2 D MI w2 k R wr) := h2
          have HSZ : Hid (wr.heap.size = D.b2 + 4 * k) := hsz
          have HW2 : Hid (w2.heap.size = D.b2) := hw2
          have HB2 : Hid (D.b2 = D.b1 + D.n + 1) := hb2
          clear h2 hsz hw2 hb2
          go_upto_region 24 with fail
          go_cut [15] from 106 to 114 (fun v wx => ∃ r, v = .pointer (some ⟨wr.heap.size + 2, 0, none⟩) ∧ ItemAt wr k (D.b1 + k) r wx)
          case first =>
            go_region_with (go_at_call 9; refine (name_any k hk3 _).mono ?_; rintro e wy ⟨rfl, rfl⟩)
            all_goals
              go_wp2_with fail
              try simp only [Act.put, List.getElem_toArray, List.getElem_cons_succ, List.getElem_cons_zero, List.setIfInBounds_toArray, List.set_cons_succ, List.set_cons_zero]
              go_meet
              case rel => first | exact ⟨_, rfl, item_a _ _ _ _⟩ | exact ⟨_, rfl, item_b _ _ _ _⟩
          case rest =>
            obtain ⟨r, rfl, hIt⟩ := hcut
            obtain ⟨hr, hBx, hsx, hmx, hix⟩ := hIt
            have e2 : wr.heap.size + 2 = D.b2 + 4 * k + 2 := by have := HSZ.out; omega
            rw [e2]
            have hix' := hix
            rw [e2] at hix'
            have x0 : wc.cell? ⟨D.b2 + 4 * k + 2, 0, none⟩ = some (.string (nmB k)) := hix'.1 0 (by omega)
            have hxl : D.b2 + 4 * k + 2 < wc.heap.size := hix'.lt (by omega)
            have hNw : N < wr.heap.size := by have := HSZ.out; have := HB2.out; omega
            have n3 : wc.cell? ⟨N, 3, none⟩ = some (.map (some MI)) := ((hBx.cell (p := ⟨N, 3, none⟩) hNw).trans (World.cell?_of_block (w := w2) (H2.out.kp.block N (by have := HW2.out; have := HB2.out; omega) (by omega)))).trans ((HP.out.qN.1 3 (by omega)).trans (by rw [HP.out.c3]))
            have hNl : N < wc.heap.size := Nat.lt_of_lt_of_le hNw hBx.size
            obtain ⟨F, hF, hF2⟩ := H2.out.it
            have hFc := hF.block (hBx.block _ hF.lt)
            obtain ⟨wB, hupd, hFB, hKB, hsB⟩ := (hFc.block (w' := wc.drew) rfl).update strKey Ybaz.underlying62 (nmB k) (ptr (D.b2 + 4 * k + 2)) trivial (fun _ _ => trivial)
            have hsBz : wB.heap.size = D.b2 + 4 * k + 3 := by rw [hsB]; show wc.heap.size = _; have := HSZ.out; omega
            have hup : ∃ F', MapF Value.string wB MI F' ∧ ∀ i, i < D.n → F' (nmB i) = if i < k + 1 then some (ptr (D.b2 + 4 * i + 2)) else none := by
              refine ⟨_, hFB, fun i hi => ?_⟩
              unfold updF
              by_cases e : i = k
              · subst e; simp
              · have h1 : nmB i ≠ nmB k := fun e' => e (nmB_inj (by omega) (by omega) e')
                have h2 : (i < k + 1) = (i < k) := by apply propext; omega
                simp only [h1, if_false, h2]
                exact hF2 i hi
            have hkeep : ∀ b, b < wr.heap.size → b ≠ MI → wB.heap[b]? = wr.heap[b]? := fun b hb h1 => (hKB.block b (Nat.lt_of_lt_of_le hb hBx.size) h1).trans (hBx.block b hb)
            have htx := H2.out.tx k hkl
            have htl : D.b1 + k < wr.heap.size := by have := HSZ.out; have := HB2.out; omega
            have hil : D.b1 + D.n < wr.heap.size := by have := HSZ.out; have := HB2.out; omega
            have cTSB : wB.cell? ⟨TS, k, none⟩ = some (.pointer (some ⟨D.b1 + k, 0, none⟩)) := (World.cell?_of_block (w := wr) (hkeep TS hTSl (by omega))).trans cTS
            have hTSB : TS < wB.heap.size := by omega
            have htb := htx.1.block (hkeep (D.b1 + k) htl (by omega))
            have t16 := htb.1 16 (by omega)
            have f16 := htb.2 16
            have hib := H2.out.is.block (hkeep (D.b1 + D.n) hil (by omega))
            have c13 := hib.1 k hkl
            have f13 := hib.2 k
            have htlB : D.b1 + k < wB.heap.size := htb.lt (by omega)
            have hilB : D.b1 + D.n < wB.heap.size := hib.lt (by omega)
            have hne1 : D.b1 + k ≠ D.b1 + D.n := by omega
            have htlC : D.b1 + k < D.b2 + 4 * k + 3 := by omega
            have hilC : D.b1 + D.n < D.b2 + 4 * k + 3 := by omega
            have hTSC : TS < D.b2 + 4 * k + 3 := by omega
            have HG : Hid (P2 D MI w2 (k + 1) (setN R k r) (((wB.setCell ⟨D.b1 + k, 16, none⟩ (.slice (some ⟨D.b2 + 4 * k + 3, 0, none⟩) 1 1)).setCell ⟨D.b1 + D.n, k, none⟩ (ptr (D.b2 + 4 * k + 2))).alloc (.cells #[ptr (D.b2 + 4 * k + 2)] 52))) := by
              have hg := H2.out.item hkl (wA := wc.drew) hBx.drew hsx hr (hmx.block rfl) hix hup hKB hsB rfl rfl rfl
              rw [World.setCell_alloc_past _ _ _ _ htlB, World.setCell_alloc_past _ _ _ _ (by simpa using hilB)] at hg
              exact hg
            unfold ptr at hupd HG
            clear hix hix' hmx hFB hKB hsB hup hkeep htx htb hib hF hF2 hFc hBx hsx H2 hr
            go_wp2_with fail
            go_region
            all_goals
              go_wp2_with fail
              go_roundw
              case rel => exact ⟨k + 1, _, by omega, by go_num, HG.out⟩
              case measure => simp [intOf]; omega
        · obtain rfl : k = D.n := by omega
          have H2 : Hid (P2 D MI w2 D.n R wr) := h2
          clear h2 hsz
          go_wp2_with fail
          go_meet
          case rel => exact ⟨R, H2.out⟩
  case rest =>
    obtain ⟨R, h2⟩ := hcut
    obtain ⟨w3, rfl⟩ : ∃ w3, w3 = wc := ⟨_, rfl⟩
    have hw3 := h2.sz
    have hRb := h2.rb
    have W : (envOf D R N MI MV ag).Wf := env_wf D R N MI MV ag hn HP.out.src hRb (by omega) (by omega)
    have h30 := P3.start HP.out h2
    have HA : Hid (∀ w4, Kp (fun b => D.b1 ≤ b ∧ b ≠ D.b1 + D.n) w3 w4 → Arr (envOf D R N MI MV ag) D.og nb TS OG SR (D.b1 + D.n) w4) := fun w4 h => arr_of HP.out h2 h
    have HLW : Hid (Below w.heap.size w w3) := hlow.trans (h2.kp.below hlow.size (fun b hb e => by omega))
    have H2 : Hid (P2 D MI w2 D.n R w3) := h2
    have H30 : Hid (P3 D R N MI MV ag c w3 0 w3) := h30
    have HW : Hid (envOf D R N MI MV ag).Wf := W
    have HR : Hid (∀ i, i < D.n → D.b2 + 4 * i ≤ R i ∧ R i ≤ D.b2 + 4 * i + 1) := hRb
    clear h2 h30 hw3 hlow hRb W
    go_upto_block 4 with fail
    go_cut [16, 17] from 136 to 171 (fun _ _ wr => P3 D R N MI MV ag c w3 D.n wr)
    case first =>
      as_aux_lemma =>
        go_wp2_with fail
        go_loopw [16] (fun v wr => ∃ k : Nat, k ≤ D.n ∧ v = .int .i64 k ∧ P3 D R N MI MV ag c w3 k wr) (fun v _ => D.n - (intOf v).toNat)
        case atStart => exact ⟨0, by omega, rfl, H30.out⟩
        case round =>
          obtain ⟨k, hk, rfl, h3⟩ := hrel
          have hAr := HA.out wr h3.kp
          have nc : wr.cell? ⟨nb, 0, none⟩ = some (.int .i64 D.n) := hAr.qn.1 0 (by omega)
          have hnl := hAr.lt.1
          by_cases hkl : k < D.n
          · have k0 : (0 : Int) ≤ (k : Int) := by omega
            have k1 : (k : Int) < (D.n : Int) := by omega
            have hSRl := hAr.lt.2.2.2.1
            cases hs : D.src k with
            | none =>
              have cSR : wr.cell? ⟨SR, k, none⟩ = some (.int .i64 (-1)) := (hAr.qs.1 k hkl).trans (by show some (Value.int .i64 (srcZ _ k)) = _; unfold srcZ; rw [show (envOf D R N MI MV ag).src k = none from hs])
              have HN : Hid (P3 D R N MI MV ag c w3 (k + 1) wr) := h3.skip hs
              clear h3 hAr
              go_wp2_with fail
              go_roundw
              case rel => exact ⟨k + 1, by omega, by go_num, HN.out⟩
              case measure => simp [intOf]; omega
            | some j =>
              have cSR : wr.cell? ⟨SR, k, none⟩ = some (.int .i64 (j)) := (hAr.qs.1 k hkl).trans (by show some (Value.int .i64 (srcZ _ k)) = _; unfold srcZ; rw [show (envOf D R N MI MV ag).src k = some j from hs])
              have hjn : j < D.n := HP.out.src k j hkl hs
              have j0' : (0 : Int) ≤ (j : Int) := by omega
              have j1' : (j : Int) < (D.n : Int) := by omega
              have jd : decide ((0 : Int) ≤ (j : Int)) = true := decide_eq_true (by omega)
              have cTS : wr.cell? ⟨TS, k, none⟩ = some (.pointer (some ⟨D.b1 + k, 0, none⟩)) := hAr.qt.1 k hkl
              have hTSl := hAr.lt.2.1
              have cIS : wr.cell? ⟨D.b1 + D.n, j, none⟩ = some (.pointer (some ⟨D.b2 + 4 * j + 2, 0, none⟩)) := hAr.qi.1 j hjn
              have hISl := hAr.lt.2.2.2.2
              have hIm : Blk wr (D.b2 + 4 * j + 2) 3 (imOf (envOf D R N MI MV ag) (s3 D c k) j) := h3.loc (.im j) hjn nofun
              have i2 : wr.cell? ⟨D.b2 + 4 * j + 2, 2, none⟩ = some (.map (some (R j))) := hIm.1 2 (by omega)
              have hIl := hIm.lt (by omega)
              obtain ⟨F, hF, hRd⟩ : ∃ F, MapF ptr wr (R j) F ∧ RdF (envOf D R N MI MV ag) (s3 D c k) j F := h3.loc (.mr j) hjn nofun
              have hraw : ∀ i, i < D.n → Blk wr (D.b1 + i) 19 (txOf (envOf D R N MI MV ag) (s3 D c k) i) ∧ Raw wr (D.b1 + i) := fun i hi => h3.loc (.tx i) hi nofun
              obtain ⟨wB, hupd, hFB, hKB, hsB⟩ := (hF.block (w' := wr.drew) rfl).update ptrKey Ybaz.underlying54 (D.b1 + k) (.string rlNewB) ((hraw k hkl).2.block rfl) (fun b hb => by
                obtain ⟨i, hi, rfl⟩ := hRd.2 b hb
                exact (hraw i hi).2.block rfl)
              have hRj := HR.out j hjn
              have hb3 : D.b3 = D.b2 + 4 * D.n := rfl
              have hsBz : wB.heap.size = D.b3 + rsN D k := by rw [hsB]; exact h3.sz
              have hlB : ∀ {b : Nat}, b < wr.heap.size → b < wB.heap.size := fun h => by rw [hsB]; exact h
              have keep : ∀ b, b < wr.heap.size → b ≠ R j → wB.heap[b]? = wr.heap[b]? := fun b hb h1 => hKB.block b hb h1
              have cTSB : wB.cell? ⟨TS, k, none⟩ = some (.pointer (some ⟨D.b1 + k, 0, none⟩)) := (World.cell?_of_block (w := wr) (keep TS hTSl (by omega))).trans cTS
              have hTSB := hlB hTSl
              have cISB : wB.cell? ⟨D.b1 + D.n, j, none⟩ = some (.pointer (some ⟨D.b2 + 4 * j + 2, 0, none⟩)) := (World.cell?_of_block (w := wr) (keep (D.b1 + D.n) hISl (by omega))).trans cIS
              have hISB := hlB hISl
              have htb := (hraw k hkl).1.block (keep (D.b1 + k) (hraw k hkl).2.lt (by omega))
              have t15 := htb.1 15 (by omega)
              have f15 := htb.2 15
              have htlB : D.b1 + k < wB.heap.size := htb.lt (by omega)
              have htlC : D.b1 + k < D.b3 + rsN D k := by omega
              have hTSC : TS < D.b3 + rsN D k := by omega
              have hISC : D.b1 + D.n < D.b3 + rsN D k := by omega
              have HG : Hid (P3 D R N MI MV ag c w3 (k + 1) ((wB.drew.setCell ⟨D.b1 + k, 15, none⟩ (.slice (some ⟨D.b3 + rsN D k, 0, none⟩) 1 1)).alloc (.cells #[ptr (D.b2 + 4 * j + 2)] 52))) := h3.read HW.out HR.out hkl hs hRd (wB := wB.drew) (hFB.block rfl) ⟨hKB.os, hKB.tape, hKB.output, hKB.size, fun b hb hp => hKB.block b hb hp⟩ hsB
              unfold ptr at hupd HG
              unfold rlNewB at hupd
              clear h3 hAr hIm hF hRd hraw hFB hKB hsB keep hlB htb hRj hb3 hb2
              go_wp2_with fail
              go_region
              all_goals
                go_wp2_with fail
                go_region
                all_goals
                  go_wp2_with fail
                  go_roundw
                  case rel => exact ⟨k + 1, by omega, by go_num, HG.out⟩
                  case measure => simp [intOf]; omega
          · obtain rfl : k = D.n := by omega
            have H3 : Hid (P3 D R N MI MV ag c w3 D.n wr) := h3
            clear h3 hAr
            go_wp2_with fail
            go_meet
            case rel => exact H3.out
    case rest =>
      have h3 : P3 D R N MI MV ag c w3 D.n wc := hcut
      clear hcut
      obtain ⟨w4, rfl⟩ : ∃ w4, w4 = wc := ⟨_, rfl⟩
      have h40 := P4.start (h3.st HP.out)
      have hA4 := HA.out w4 h3.kp
      have HNO : Hid (∀ b, (b < D.b1 ∧ b ≠ N ∧ b ≠ MI ∧ b ≠ MV) ∨ b = D.b1 + D.n → ¬ (envOf D R N MI MV ag).Own b) := fun b hb => notOwn HP.out HR.out hb
      have HA4 : Hid (∀ w5, Kp (envOf D R N MI MV ag).Own w4 w5 → Arr (envOf D R N MI MV ag) D.og nb TS OG SR (D.b1 + D.n) w5) := fun w5 h => hA4.kept h ⟨HNO.out _ (by omega), HNO.out _ (by omega), HNO.out _ (by omega), HNO.out _ (by omega), HNO.out _ (by omega)⟩
      have HLW4 : Hid (∀ w5, Kp (envOf D R N MI MV ag).Own w4 w5 → Below w.heap.size w w5) := fun w5 h => (HLW.out.trans (h3.kp.below HLW.out.size (fun b hb e => by omega))).trans (h.below (Nat.le_trans HLW.out.size h3.kp.size) (fun b hb => HNO.out b (.inl (by omega))))
      have H40 : Hid (P4 (envOf D R N MI MV ag) D c w4 0 (s3 D c D.n) w4) := h40
      clear h3 h40 hA4
      go_upto_block 6 with fail
      go_cut [18] from 172 to 182 (fun _ wr => ∃ s, P4 (envOf D R N MI MV ag) D c w4 D.n s wr)
      case first =>
        as_aux_lemma =>
          go_wp2_with fail
          go_loopw [18] (fun v wr => ∃ (k : Nat) (s : Sta), k ≤ D.n ∧ v = .int .i64 k ∧ P4 (envOf D R N MI MV ag) D c w4 k s wr) (fun v _ => D.n - (intOf v).toNat)
          case atStart => exact ⟨0, _, by omega, rfl, H40.out⟩
          case round =>
            obtain ⟨k, s, hk, rfl, h4⟩ := hrel
            have hAr := HA4.out wr h4.kp
            have nc : wr.cell? ⟨nb, 0, none⟩ = some (.int .i64 D.n) := hAr.qn.1 0 (by omega)
            have hnl := hAr.lt.1
            by_cases hkl : k < D.n
            · have k0 : (0 : Int) ≤ (k : Int) := by omega
              have k1 : (k : Int) < (D.n : Int) := by omega
              have cTS : wr.cell? ⟨TS, k, none⟩ = some (.pointer (some ⟨D.b1 + k, 0, none⟩)) := hAr.qt.1 k hkl
              have hTSl := hAr.lt.2.1
              have H4 : Hid (P4 (envOf D R N MI MV ag) D c w4 k s wr) := h4
              clear h4 hAr
              go_wp2_with fail
              refine (cand_any (envOf D R N MI MV ag) HW.out s k hkl (H4.out.len HW.out) wr H4.out.st).mono ?_
              rintro e wy ⟨rfl, s', hc, hst, hK, _⟩
              have HG : Hid (P4 (envOf D R N MI MV ag) D c w4 (k + 1) s' wy) := H4.out.step rfl hkl hc hst hK
              clear hc hst hK nc hnl cTS hTSl H4
              go_wp2_with fail
              go_roundw
              case rel => exact ⟨k + 1, s', by omega, by go_num, HG.out⟩
              case measure => simp [intOf]; omega
            · obtain rfl : k = D.n := by omega
              have H4 : Hid (P4 (envOf D R N MI MV ag) D c w4 D.n s wr) := h4
              clear h4 hAr
              go_wp2_with fail
              go_meet
              case rel => exact ⟨s, H4.out⟩
      case rest =>
        obtain ⟨s, h4⟩ := hcut
        have H4 : Hid (P4 (envOf D R N MI MV ag) D c w4 D.n s wc) := h4
        clear h4
        go_wp2_with fail
        refine (settle_all (envOf D R N MI MV ag) HW.out D.og s ag rfl wc H4.out.st H4.out.inv).mono ?_
        rintro e w5 ⟨rfl, s', hI, hL, hst, hK⟩
        have hK5 := H4.out.kp.trans hK
        have hAr := HA4.out w5 hK5
        have hlw := HLW4.out w5 hK5
        have nc : w5.cell? ⟨nb, 0, none⟩ = some (.int .i64 D.n) := hAr.qn.1 0 (by omega)
        have hnl := hAr.lt.1
        have hmk := run_make_row' (P := Ybaz.prog) 82 4 (.bool false) 1 Ybaz.underlying82 mk4 rfl .i64 .i64 D.n (by omega) (by omega)
        have HI : Hid (Inv (envOf D R N MI MV ag) D.og s') := hI
        have HS : Hid (s'.L = []) := hL
        have HST : Hid (St (envOf D R N MI MV ag) s' w5) := hst
        have HAR : Hid (Arr (envOf D R N MI MV ag) D.og nb TS OG SR (D.b1 + D.n) w5) := hAr
        have HL5 : Hid (Below w.heap.size w w5) := hlw
        clear hI hL hst hK hK5 hAr hlw H4
        go_upto_region 40 with fail
        go_cut [19] from 185 to 186 (fun v wx => v = .pointer (some ⟨w5.heap.size + 1, 0, none⟩) ∧ wx = (w5.alloc (.cells (madeCells #[.bool false] D.n) 4)).alloc (.cells #[.slice (some ⟨w5.heap.size, 0, none⟩) D.n D.n] 82))
        case first =>
          go_wp2_with fail
          go_meet
          case rel => exact ⟨rfl, rfl⟩
        case rest =>
          obtain ⟨rfl, rfl⟩ := hcut
          rename_i hK
          refine hK _ _ (law_fin (envOf D R N MI MV ag) HW.out D.og s' (fun _ _ => rfl) HI.out HS.out w nb TS OG SR (D.b1 + D.n) (w5.heap.size + 1) w5.heap.size _ ?_ ?_ ?_ ?_ ?_ _ _ _ _ _ _ _ _ _ _ _ _ _ _ _ _ _ _ _ _ _ _ _ _ _ _ _ _ _ _ _ _ _ _ _ _ _ _ _ _ _ _ _ _ _ _ _ _ _ _ _ _ _ _ _ _ _ _ _ _ _ _ _ _ _ _ _ _ _ _ _ _ _ _ _ _ _ _ _ _ _ _ _ _ _ _ _ _ _ _ _ _ _ _ _ _ _ _ _ _ _ _ _ _ _ _ _ _ _ _ _ _ _ _ _ _ _ _ _ _ _ _ _ _ _ _ _ _ _ _ _ _ _ _ _ _ _ _ _ _ _ _ _ _ _ _ _ _ _ _ _ _ _ _ _ _ _ _ _ _ _ _ _)
          · intro w' hKp
            have hB : Below w5.heap.size w5 w' := (((Below.refl _ w5).alloc (Nat.le_refl _) _).alloc (by simp) _).trans (hKp.below (by simp; omega) (fun b hb e => by omega))
            refine ⟨HST.out.below HW.out hB, HAR.out.below hB, ?_⟩
            have hTB := Blk.fresh (w5.alloc (.cells (madeCells #[.bool false] D.n) 4)) #[.slice (some ⟨w5.heap.size, 0, none⟩) D.n D.n] 82
            rw [World.size_alloc] at hTB
            exact (hTB.kept hKp (by simp) (by omega)).congr fun j hj => by have h0 : j = 0 := (by simpa using hj); subst h0; rfl
          · exact ((made_blk w5 (.bool false) D.n 4).alloc (by simp) _)
          · exact ⟨by simp; omega, by simp⟩
          · exact HL5.out.size
          · exact (HL5.out.alloc HL5.out.size _).alloc (by have := HL5.out.size; simp; omega) _

end Go.Proofs.YbulkbpdqGreat
