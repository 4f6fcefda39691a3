import Derived.Test.YbulkbpdqGreatLawS
import Derived.Test.YbulkbpdqGreatHeadB
import Derived.Deep.CutBlock
namespace Go.Proofs.YbulkbpdqGreat
open Go.ChangeShapes Go.WideShapes Go.ChangeAt Go.RowKit
set_option linter.unusedVariables false

theorem mk34 : (Ybaz.prog.info? 34).map (fun i => (i.zero, i.size, i.bytes)) = some (some (.pointer none), 1, 8) := by kernel_rfl
theorem mk26 : (Ybaz.prog.info? 26).map (fun i => (i.zero, i.size, i.bytes)) = some (some (.string ⟨#[]⟩), 1, 16) := by kernel_rfl
theorem mk3 : (Ybaz.prog.info? 3).map (fun i => (i.zero, i.size, i.bytes)) = some (some (.int .i64 0), 1, 8) := by kernel_rfl
theorem mk52 : (Ybaz.prog.info? 52).map (fun i => (i.zero, i.size, i.bytes)) = some (some (.pointer none), 1, 8) := by kernel_rfl

set_option maxRecDepth 1000000 in
set_option maxHeartbeats 8000000 in
theorem law_walk (a0 : Option Addr) (len cap : Nat) (ag : Bool) (w : World) (hl : len ≤ cap) (hm : cap ≤ maxLen) (p q : Nat → Nat) (r : Nat → Int) (hA : ArgTx w a0 len p q r) :
    Calls Ybaz.prog 3 #[.slice a0 len cap, .bool ag] w fun e w' => e = .returned (.bool true) ∧ Below w.heap.size w w' := by
  by_cases hn : len ≤ 300
  · have hd : decide ((300 : Int) < (len : Int)) = false := decide_eq_false (by omega)
    have HA : Hid (ArgTx w a0 len p q r) := hA
    clear hA
    go_enter Ybaz.func3, Ybaz.ntmps3
    go_upto_if 37 with fail
    go_cut [6] from 37 to 37 (fun v wx => v = .string (stB ag) ∧ wx = w.alloc (.cells #[.int .i64 len] 3))
    case first =>
      cases ag
      all_goals
        go_wp2_with fail
        go_meet
        case rel => exact ⟨rfl, rfl⟩
    case rest =>
      obtain ⟨rfl, rfl⟩ := hcut
      go_wp2_with fail
      refine (new_full _ _).mono ?_
      rintro e wN ⟨rfl, c, hNew⟩
      have nc : wN.cell? ⟨w.heap.size, 0, none⟩ = some (.int .i64 len) := (World.cell?_of_block (w := w.alloc (.cells #[.int .i64 len] 3)) (hNew.b.block w.heap.size (by simp))).trans ((Blk.fresh w #[.int .i64 len] 3).1 0 (by simp))
      have hnl : w.heap.size < wN.heap.size := by have := hNew.sz; simp at this; omega
      have hnl1 : w.heap.size < wN.heap.size + 1 := by omega
      have hnl2 : w.heap.size < wN.heap.size + 1 + 1 := by omega
      have hnl3 : w.heap.size < wN.heap.size + 1 + 1 + 1 := by omega
      have hm34 := run_make_row' (P := Ybaz.prog) 28 34 (.pointer none) 8 Ybaz.underlying28 mk34 rfl .i64 .i64 len (by omega) (by omega)
      have hm26 := run_make_row' (P := Ybaz.prog) 29 26 (.string ⟨#[]⟩) 16 Ybaz.underlying29 mk26 rfl .i64 .i64 len (by omega) (by omega)
      have hm3 := run_make_row' (P := Ybaz.prog) 30 3 (.int .i64 0) 8 Ybaz.underlying30 mk3 rfl .i64 .i64 len (by omega) (by omega)
      have hH := head_start len ag w wN c hNew
      clear hNew
      go_upto_block 0 with fail
      generalize World.alloc _ _ = w1 at hH ⊢
      generalize wN.heap.size = PH at hH ⊢
      generalize PH + 1 = TS at hH ⊢
      generalize TS + 1 = OG at hH ⊢
      generalize OG + 1 = SR at hH ⊢
      clear nc hnl hnl1 hnl2 hnl3 hm34 hm26 hm3
      have HH : Hid (H1 len ag w PH TS OG SR c w1) := hH
      have HP0 : Hid (P1 (drawn len (SR + 1) p q r) TS OG SR w1 0 w1) := hH.p1 p q r
      clear hH
      go_cut [12] from 47 to 98 (fun _ wr => P1 (drawn len (SR + 1) p q r) TS OG SR w1 len wr)
      case first =>
        as_aux_lemma =>
          go_wp2_with fail
          go_loopw [12] (fun v wr => ∃ k : Nat, k ≤ len ∧ v = .int .i64 k ∧ P1 (drawn len (SR + 1) p q r) TS OG SR w1 k wr) (fun v _ => len - (intOf v).toNat)
          case atStart => exact ⟨0, by omega, rfl, HP0.out⟩
          case round =>
            obtain ⟨k, hk, rfl, h1⟩ := hrel
            obtain ⟨o1, o2, o3, o4, o5⟩ := HH.out.ord
            have hsz : wr.heap.size = SR + 1 + k := h1.sz
            have nc : wr.cell? ⟨w.heap.size, 0, none⟩ = some (.int .i64 len) := (World.cell?_of_block (w := w1) (h1.kp.block w.heap.size (by omega) (by omega))).trans (HH.out.qn.1 0 (by omega))
            have hnl : w.heap.size < wr.heap.size := by omega
            by_cases hkl : k < len
            · obtain ⟨b, off, rfl, hb, c0, c1, c2, hp, hq, hr1, hr2⟩ := HA.out k hkl
              have hbk : wr.heap[b]? = w.heap[b]? := (h1.kp.block b (by omega) (by omega)).trans (HH.out.lo.block b hb)
              have d0 : wr.cell? ⟨b, off + k * 3, none⟩ = some (.int .u8 (p k)) := (World.cell?_of_block (w := w) hbk).trans c0
              have d1 : wr.cell? ⟨b, off + k * 3 + 1, none⟩ = some (.int .u8 (q k)) := (World.cell?_of_block (w := w) hbk).trans c1
              have d2 : wr.cell? ⟨b, off + k * 3 + 2, none⟩ = some (.int .i16 (r k)) := (World.cell?_of_block (w := w) hbk).trans c2
              have hbl : b < wr.heap.size := by omega
              have k0 : (0 : Int) ≤ (k : Int) := by omega
              have k1 : (k : Int) < (len : Int) := by omega
              have m3 : p k % 3 < 3 := Nat.mod_lt _ (by omega)
              have hPb := HH.out.ph.block (h1.kp.block PH (by omega) (by omega))
              have cPH : wr.cell? ⟨PH, p k % 3, none⟩ = some (.string (phB (p k % 3))) := hPb.1 _ m3
              have hPHl : PH < wr.heap.size := by omega
              have cO : wr.cell? ⟨OG, k, none⟩ = some (rowO (drawn len (SR + 1) p q r) k k) := h1.qo.1 k hkl
              have fO := h1.qo.2 k
              have hOl : OG < wr.heap.size := by omega
              have cT : wr.cell? ⟨TS, k, none⟩ = some (rowT (drawn len (SR + 1) p q r) k k) := h1.qt.1 k hkl
              have fT := h1.qt.2 k
              have hTl : TS < wr.heap.size := by omega
              have cS : wr.cell? ⟨SR, k, none⟩ = some (rowS (drawn len (SR + 1) p q r) k k) := h1.qs.1 k hkl
              have fS := h1.qs.2 k
              have hSl : SR < wr.heap.size := by omega
              have n1 : OG ≠ TS := by omega
              have n2 : OG ≠ SR := by omega
              have n3 : TS ≠ SR := by omega
              have n4 : b ≠ OG := by omega
              have n5 : b ≠ TS := by omega
              have n6 : b ≠ SR := by omega
              have n7 : w.heap.size ≠ OG := by omega
              have n8 : w.heap.size ≠ TS := by omega
              have n9 : w.heap.size ≠ SR := by omega
              have H1' : Hid (P1 (drawn len (SR + 1) p q r) TS OG SR w1 k wr) := h1
              have HSZ : Hid (wr.heap.size = SR + 1 + k) := hsz
              have HO : Hid (PH = w.heap.size + 4 ∧ TS = PH + 1 ∧ OG = TS + 1 ∧ SR = OG + 1 ∧ w1.heap.size = SR + 1) := ⟨o1, o2, o3, o4, o5⟩
              clear h1 hsz o1 o2 o3 o4 o5 c0 c1 c2 hbk hPb
              by_cases hr0 : 0 ≤ r k
              · obtain ⟨z, hz⟩ : ∃ z : Nat, r k = (z : Int) := ⟨(r k).toNat, (Int.toNat_of_nonneg hr0).symm⟩
                have HSI : Hid (srcI (drawn len (SR + 1) p q r) k = ((z % len : Nat) : Int)) := by
                  show srcI (drawn len (SR + 1) p q r) k = ((z % len : Nat) : Int)
                  unfold srcI drawn
                  simp [hz]
                rw [hz] at d2 hr1 hr2
                have zd : decide ((0 : Int) ≤ (z : Int)) = true := decide_eq_true (by omega)
                clear hz hr0
                go_upto_region 16 with fail
                go_region
                all_goals
                  go_wp2_with fail
                  go_region
                  all_goals
                    go_wp2_with fail
                    go_roundw
                    case rel => exact ⟨k + 1, by omega, by go_num, (H1'.out.put2 hkl ⟨n1, n2, n3⟩ (HSI.out.trans rfl) _).drew.drew⟩
                    case measure => simp [intOf]; omega
              · have HSI : Hid (srcI (drawn len (SR + 1) p q r) k = -1) := by
                  show srcI (drawn len (SR + 1) p q r) k = -1
                  unfold srcI drawn
                  simp [hr0]
                have zd : decide ((0 : Int) ≤ r k) = false := decide_eq_false hr0
                clear hr0
                go_upto_region 16 with fail
                go_region
                all_goals
                  go_wp2_with fail
                  go_roundw
                  case rel => exact ⟨k + 1, by omega, by go_num, (H1'.out.put1 hkl ⟨n1, n2, n3⟩ HSI.out).drew⟩
                  case measure => simp [intOf]; omega
            · obtain rfl : k = len := by omega
              have HG : Hid (P1 (drawn k (SR + 1) p q r) TS OG SR w1 k wr) := h1
              clear h1 hsz o1 o2 o3 o4 o5
              go_wp2_with fail
              go_meet
              case rel => exact HG.out
      case rest =>
        have h1 : P1 (drawn len (SR + 1) p q r) TS OG SR w1 len wc := hcut
        clear hcut
        obtain ⟨o1, o2, o3, o4, o5⟩ := HH.out.ord
        have hsz : wc.heap.size = SR + 1 + len := h1.sz
        have nc : wc.cell? ⟨w.heap.size, 0, none⟩ = some (.int .i64 len) := (World.cell?_of_block (w := w1) (h1.kp.block w.heap.size (by omega) (by omega))).trans (HH.out.qn.1 0 (by omega))
        have hnl : w.heap.size < wc.heap.size := by omega
        have hm52 := run_make_row' (P := Ybaz.prog) 49 52 (.pointer none) 8 Ybaz.underlying49 mk52 rfl .i64 .i64 len (by omega) (by omega)
        have HPR := HH.out.pre hn h1
        have HLO : Hid (Below w.heap.size w (wc.alloc (.cells (madeCells #[.pointer none] len) 52))) := (HH.out.lo.trans (h1.kp.below HH.out.lo.size (fun b hb e => by omega))).alloc (by omega) _
        have HW : Hid (w.heap.size ≤ w.heap.size ∧ w.heap.size ≤ w.heap.size + 1 ∧ w.heap.size ≤ w.heap.size + 2 ∧ w.heap.size ≤ w.heap.size + 3 ∧ w.heap.size ≤ SR + 1) := by show _ ∧ _ ∧ _ ∧ _ ∧ _; omega
        have HPr : Hid (Pre (drawn len (SR + 1) p q r) ag w.heap.size (w.heap.size + 1) (w.heap.size + 2) (w.heap.size + 3) TS OG SR c (wc.alloc (.cells (madeCells #[.pointer none] len) 52))) := HPR
        have HSZ : Hid (wc.heap.size = SR + 1 + len) := hsz
        clear h1 hsz o1 o2 o3 o4 o5 HPR
        go_upto_region 20 with fail
        go_cut [13] from 99 to 100 (fun v wx => v = .slice (some ⟨SR + 1 + len, 0, none⟩) len len ∧ wx = wc.alloc (.cells (madeCells #[.pointer none] len) 52))
        case first =>
          go_wp2_with fail
          go_meet
          case rel => exact ⟨by rw [HSZ.out], rfl⟩
        case rest =>
          obtain ⟨rfl, rfl⟩ := hcut
          rename_i hK
          exact hK _ _ (law_set (drawn len (SR + 1) p q r) ag w w.heap.size (w.heap.size + 1) (w.heap.size + 2) (w.heap.size + 3) TS OG SR c _ HPr.out HLO.out HW.out _ _ _ _ _ _ _ _ _ _ _ _ _ _ _ _ _ _ _ _ _ _ _ _ _ _ _ _ _ _ _ _ _ _ _ _ _ _ _ _ _ _ _ _ _ _ _ _ _ _ _ _ _ _ _ _ _ _ _ _ _ _ _ _ _ _ _ _ _ _ _ _)
  · have hd : decide ((300 : Int) < (len : Int)) = true := decide_eq_true (by omega)
    clear hA
    go_enter Ybaz.func3, Ybaz.ntmps3
    go_wp2
    go_ret
    exact ⟨rfl, (Below.refl _ _).alloc (Nat.le_refl _) _⟩
end Go.Proofs.YbulkbpdqGreat
