import Derived.Test.YbulkbpdqGreatLawC
namespace Go.Proofs.YbulkbpdqGreat
open Go.ChangeShapes Go.WideShapes Go.ChangeAt Go.RowKit
set_option linter.unusedVariables false

set_option maxRecDepth 1000000 in
set_option maxHeartbeats 8000000 in
/-- The law behind 'settle': its own fixed point, and its questions. -/
theorem law_fin (E : Env) (W : E.Wf) (og : Nat → ByteArray) (s : Sta) (hnm : ∀ k, k < E.n → E.nm k = nmB k) (hI : Inv E og s) (hL : s.L = []) (w : World) (nb TS OG SR IS TB TM : Nat) (wz : World)
    (hKeep : ∀ w', Kp (fun b => b = TM) wz w' → St E s w' ∧ Arr E og nb TS OG SR IS w' ∧ Blk w' TB 1 (fun _ => .slice (some ⟨TM, 0, none⟩) E.n E.n)) (hTM : Blk wz TM E.n (fun _ => .bool false)) (hTl : TM < wz.heap.size ∧ TB < wz.heap.size) (hwT : w.heap.size ≤ TM) (hlow : Below w.heap.size w wz)
    (j0 j1 j8 j12 j14 j15 j16 j17 j18 j33 j34 j35 j36 j37 j38 j39 j40 j41 j42 j43 j44 j45 j46 j47 j48 j49 j50 j51 j52 j53 j54 j55 j56 j57 j58 j59 j60 j61 j62 j63 j64 j65 j66 j67 j68 j69 j70 j71 j72 j73 j74 j75 j76 j77 j78 j79 j80 j81 j82 j83 j84 j85 j86 j87 j88 j89 j90 j91 j92 j93 j94 j95 j96 j97 j98 j99 j100 j101 j102 j103 j104 j105 j106 j107 j108 j109 j110 j111 j112 j113 j114 j115 j116 j117 j118 j119 j120 j121 j122 j123 j124 j125 j126 j127 j128 j129 j130 j131 j132 j133 j134 j135 j136 j137 j138 j139 j140 j141 j142 j143 j144 j145 j146 j147 j148 j149 j150 j151 j152 j153 j154 j155 j156 j157 j158 j159 j160 j161 j162 j163 j164 j165 j166 j167 j168 j169 j170 j171 j172 j173 j174 j175 j176 j177 j178 j179 j180 j181 j182 j183 j184 j185 j186 : Value) :
    Code.wp Ybaz.prog ((Ybaz.f3.body.bind (afterRegion 40)).getD .skip) (bodyPost Ybaz.prog Ybaz.f3 fun e w' => e = .returned (.bool true) ∧ Below w.heap.size w w')
      ⟨#[j0, j1, undef, undef, .bool false, .pointer (some ⟨nb, 0, none⟩), .string E.st, .pointer (some ⟨E.ad .sch, 0, none⟩), j8, .slice (some ⟨TS, 0, none⟩) E.n E.n, .slice (some ⟨OG, 0, none⟩) E.n E.n, .slice (some ⟨SR, 0, none⟩) E.n E.n, j12, .slice (some ⟨IS, 0, none⟩) E.n E.n, j14, j15, j16, j17, j18, .pointer (some ⟨TB, 0, none⟩), undef, undef, undef, undef, undef, undef, undef, undef, undef, undef, undef, undef, undef, j33, j34, j35, j36, j37, j38, j39, j40, j41, j42, j43, j44, j45, j46, j47, j48, j49, j50, j51, j52, j53, j54, j55, j56, j57, j58, j59, j60, j61, j62, j63, j64, j65, j66, j67, j68, j69, j70, j71, j72, j73, j74, j75, j76, j77, j78, j79, j80, j81, j82, j83, j84, j85, j86, j87, j88, j89, j90, j91, j92, j93, j94, j95, j96, j97, j98, j99, j100, j101, j102, j103, j104, j105, j106, j107, j108, j109, j110, j111, j112, j113, j114, j115, j116, j117, j118, j119, j120, j121, j122, j123, j124, j125, j126, j127, j128, j129, j130, j131, j132, j133, j134, j135, j136, j137, j138, j139, j140, j141, j142, j143, j144, j145, j146, j147, j148, j149, j150, j151, j152, j153, j154, j155, j156, j157, j158, j159, j160, j161, j162, j163, j164, j165, j166, j167, j168, j169, j170, j171, j172, j173, j174, j175, j176, j177, j178, j179, j180, j181, j182, j183, j184, j185, j186, undef, undef, undef, undef, undef, undef, undef, undef, undef, undef, undef, undef, undef, undef, undef, undef, undef, undef, undef, undef, undef, undef, undef, undef, undef, undef, undef, undef, undef, undef, undef, undef, undef, undef, undef, undef, undef, undef, undef, undef, undef, undef, undef, undef, undef, undef, undef, undef, undef, undef, undef, undef, undef, undef, undef, undef, undef, undef, undef, undef, undef, undef, undef, undef, undef, undef, undef, undef, undef, undef, undef, undef, undef, undef, undef, undef, undef, undef, undef, undef, undef, undef, undef, undef, undef, undef, undef, undef, undef, undef, undef, undef, undef, undef, undef, undef, undef, undef, undef, undef, undef, undef, undef, undef, undef, undef, undef, undef, undef, undef, undef, undef, undef, undef, undef, undef, undef, undef, undef, undef, undef, undef, undef, undef, undef, undef, undef, undef, undef, undef, undef, undef, undef, undef, undef, undef, undef, undef, undef, undef, undef, undef, undef, undef, undef, undef, undef, undef, undef, undef, undef, undef, undef, undef, undef, undef, undef, undef, undef, undef, undef, undef, undef, undef, undef, undef, undef, undef, undef, undef, undef, undef, undef, undef, undef, undef, undef, undef, undef, undef, undef, undef, undef, undef, undef, undef, undef, undef, undef, undef, undef, undef, undef, undef, undef, undef, undef, undef, undef, undef, undef, undef, undef, undef, undef, undef, undef, undef, undef, undef, undef, undef, undef, undef, undef, undef, undef, undef, undef, undef, undef, undef, undef, undef, undef, undef, undef, undef, undef, undef, undef, undef, undef, undef, undef, undef, undef, undef, undef, undef, undef, undef], []⟩ wz := by
  have hn := W.n
  have HKP : Hid _ := hKeep
  have HI : Hid _ := hI
  have HLW : Hid _ := hlow
  clear hKeep hI hlow
  conv => arg 2; whnf
  go_wp2_with fail
  go_loopw [20] (fun v wr => ∃ (r : Nat) (t : Nat → Bool), r ≤ E.n + 1 ∧ v = .int .i64 r ∧ Rnd E og r t ∧ Blk wr TM E.n (fun i => .bool (t i)) ∧ Kp (fun b => b = TM) wz wr) (fun v _ => E.n + 1 - (intOf v).toNat)
  case atStart => exact ⟨0, _, by omega, rfl, Rnd.zero E og, hTM, Kp.refl _ _⟩
  case round =>
    obtain ⟨r, t0, hr, rfl, hR, hB, hK⟩ := hrel
    obtain ⟨hst, hAr, hTB⟩ := HKP.out wr hK
    have nc : wr.cell? ⟨nb, 0, none⟩ = some (.int .i64 E.n) := hAr.qn.1 0 (by omega)
    have hnl := hAr.lt.1
    have HR : Hid (Rnd E og r t0) := hR
    have HB : Hid (Blk wr TM E.n (fun i => .bool (t0 i))) := hB
    have HK : Hid (Kp (fun b => b = TM) wz wr) := hK
    clear hR hB hK hst hAr hTB
    by_cases hrl : r ≤ E.n
    · have hd : decide ((r : Int) ≤ (E.n : Int)) = true := decide_eq_true (by omega)
      obtain ⟨wo, rfl⟩ : ∃ wo, wo = wr := ⟨_, rfl⟩
      go_wp2_with fail
      go_loopw [21] (fun v wr => ∃ (k : Nat) (t : Nat → Bool), k ≤ E.n ∧ v = .int .i64 k ∧ Mid E og t0 k t ∧ Blk wr TM E.n (fun i => .bool (t i)) ∧ Kp (fun b => b = TM) wz wr) (fun v _ => E.n - (intOf v).toNat)
      case atStart => exact ⟨0, t0, by omega, rfl, HR.out.mid, HB.out, HK.out⟩
      case round =>
        obtain ⟨k, t, hk, rfl, hM, hB, hK⟩ := hrel
        obtain ⟨hst, hAr, hTB⟩ := HKP.out wr hK
        have nc2 : wr.cell? ⟨nb, 0, none⟩ = some (.int .i64 E.n) := hAr.qn.1 0 (by omega)
        have hnl2 := hAr.lt.1
        by_cases hlt : k < E.n
        · --ROUND
          have c0 : wr.cell? ⟨TB, 0, none⟩ = some (.slice (some ⟨TM, 0, none⟩) E.n E.n) := hTB.1 0 (by omega)
          have hTBl := hTB.lt (by omega)
          have c1 : wr.cell? ⟨TM, k, none⟩ = some (.bool (t k)) := hB.1 k hlt
          have f1 := hB.2 k
          have hTMl := hB.lt (by omega)
          have c2 : wr.cell? ⟨OG, k, none⟩ = some (.string (og k)) := hAr.qo.1 k hlt
          have hOGl := hAr.lt.2.2.1
          have c3 : wr.cell? ⟨SR, k, none⟩ = some (.int .i64 (srcZ E k)) := hAr.qs.1 k hlt
          have hSRl := hAr.lt.2.2.2.1
          have hcj : ∀ j, E.src k = some j → wr.cell? ⟨TM, j, none⟩ = some (.bool (t j)) := fun j hj => hB.1 j (W.src k j hlt hj)
          have k0 : (0 : Int) ≤ (k : Int) := by omega
          have k1 : (k : Int) < (E.n : Int) := by omega
          have HBk : Hid (Blk wr TM E.n (fun i => .bool (t i))) := hB
          have HKk : Hid (Kp (fun b => b = TM) wz wr) := hK
          have HCJ : Hid (∀ j, E.src k = some j → wr.cell? ⟨TM, j, none⟩ = some (.bool (t j))) := hcj
          clear hB hK hst hAr hTB hcj
          cases htk : t k with
          | true =>
            rw [htk] at c1
            have HP : Hid (Mid E og t0 (k + 1) t) := hM.pass (.inl htk)
            clear hM
            go_wp2_with fail
            go_quiet (fail)
            go_wp2_with fail
            go_roundw
            case rel => exact ⟨k + 1, t, by omega, by go_num, HP.out, HBk.out, HKk.out.drewN nq⟩
            case measure => simp [intOf]; omega
          | false =>
            rw [htk] at c1
            by_cases hog : og k = comB
            · have hb : ((og k).toList == [99, 111, 109, 109, 105, 116, 116, 101, 100]) = true := by rw [hog]; rw [show comB.toList = [99, 111, 109, 109, 105, 116, 116, 101, 100] from by rw [ByteArray.toList_eq]; rfl]; rfl
              have HOG : Hid (og k = comB) := hog
              clear hog
              cases hs : E.src k with
              | none =>
                rw [show srcZ E k = -1 from by simp [srcZ, hs]] at c3
                clear HCJ
                have HP : Hid (Mid E og t0 (k + 1) (setB t k true)) := hM.mark W hlt htk (⟨HOG.out, fun j hj => by rw [hs] at hj; cases hj⟩)
                clear hM
                go_wp2_with fail
                go_quiet (fail)
                go_wp2_with fail
                go_roundw
                case rel => exact ⟨k + 1, setB t k true, by omega, by go_num, HP.out, (Blk.set (show Blk (World.drewN _ _) TM E.n _ from HBk.out) k hlt (.bool true)).congr (fun i hi => by unfold upd setB; by_cases e : i = k <;> simp [e]), (HKk.out.drewN nq).setCell (p := ⟨TM, k, none⟩) (fun _ => rfl) _⟩
                case measure => simp [intOf]; omega
              | some j =>
                rw [show srcZ E k = (j : Int) from by simp [srcZ, hs]] at c3
                have hjn := W.src k j hlt hs
                have c4 := HCJ.out j hs
                have j0' : (0 : Int) ≤ (j : Int) := by omega
                have j1' : (j : Int) < (E.n : Int) := by omega
                have jd : decide ((j : Int) < 0) = false := decide_eq_false (by omega)
                clear HCJ
                cases htj : t j with
                | true =>
                  rw [htj] at c4
                  have HP : Hid (Mid E og t0 (k + 1) (setB t k true)) := hM.mark W hlt htk (⟨HOG.out, fun j' hj => by rw [hs] at hj; cases hj; exact htj⟩)
                  clear hM
                  go_wp2_with fail
                  go_quiet (fail)
                  go_wp2_with fail
                  go_roundw
                  case rel => exact ⟨k + 1, setB t k true, by omega, by go_num, HP.out, (Blk.set (show Blk (World.drewN _ _) TM E.n _ from HBk.out) k hlt (.bool true)).congr (fun i hi => by unfold upd setB; by_cases e : i = k <;> simp [e]), (HKk.out.drewN nq).setCell (p := ⟨TM, k, none⟩) (fun _ => rfl) _⟩
                  case measure => simp [intOf]; omega
                | false =>
                  rw [htj] at c4
                  have HP : Hid (Mid E og t0 (k + 1) t) := hM.pass (.inr fun hc => by have := hc.2 j hs; rw [htj] at this; cases this)
                  clear hM
                  go_wp2_with fail
                  go_quiet (fail)
                  go_wp2_with fail
                  go_roundw
                  case rel => exact ⟨k + 1, t, by omega, by go_num, HP.out, HBk.out, HKk.out.drewN nq⟩
                  case measure => simp [intOf]; omega
            · have hb : ((og k).toList == [99, 111, 109, 109, 105, 116, 116, 101, 100]) = false := by
                have h1 : (og k == comB) = false := bytes_ne (fun e => hog e.symm)
                rw [beq_toListBytes, show comB.toList = [99, 111, 109, 109, 105, 116, 116, 101, 100] from by rw [ByteArray.toList_eq]; rfl] at h1
                exact h1
              clear HCJ
              have HP : Hid (Mid E og t0 (k + 1) t) := hM.pass (.inr fun hc => hog hc.1)
              clear hM
              go_wp2_with fail
              go_quiet (fail)
              go_wp2_with fail
              go_roundw
              case rel => exact ⟨k + 1, t, by omega, by go_num, HP.out, HBk.out, HKk.out.drewN nq⟩
              case measure => simp [intOf]; omega
        · obtain rfl : k = E.n := by omega
          have HG : Hid (Rnd E og (r + 1) t ∧ Blk wr TM E.n (fun i => .bool (t i)) ∧ Kp (fun b => b = TM) wz wr) := ⟨hM.rnd W HR.out, hB, hK⟩
          clear hM hB hK hst hAr hTB
          go_wp2_with fail
          go_roundw
          case rel => exact ⟨r + 1, t, by omega, by go_num, HG.out⟩
          case measure => simp [intOf]; omega
    · obtain rfl : r = E.n + 1 := by omega
      have hd : decide ((((E.n + 1 : Nat) : Int)) ≤ (E.n : Int)) = false := decide_eq_false (by omega)
      obtain ⟨hst, hAr, hTB⟩ := HKP.out wr HK.out
      have hfin := HR.out.fin W HI.out hL
      have hTM5 : Blk wr TM E.n (fun i => .bool (!s.ow i)) := HB.out.congr (fun i hi => by rw [hfin i hi])
      have hlow5 : Below w.heap.size w wr := HLW.out.trans (HK.out.below HLW.out.size (fun b hb e => by omega))
      have hN : Blk wr (E.ad .sch) 209 s.c := hst.loc .sch trivial
      have n2 : wr.cell? ⟨E.ad .sch, 2, none⟩ = some (.string E.st) := (hN.1 2 (by omega)).trans (by rw [hst.sch.c2])
      obtain ⟨a, cap, hc206⟩ := hst.c206
      have n206 : wr.cell? ⟨E.ad .sch, 206, none⟩ = some (.slice a 0 cap) := (hN.1 206 (by omega)).trans (by rw [hc206, hL]; rfl)
      have hNl := hN.lt (by omega)
      have hcd : ∀ k, k < E.n → s.cd k = false := fun k hk => by
        cases hc : s.cd k with
        | false => rfl
        | true =>
          have := (HI.out.sh.li.cd k hk).2 hc
          rw [hL] at this; cases this
      have HST : Hid (St E s wr) := hst
      have HAR : Hid (Arr E og nb TS OG SR IS wr) := hAr
      have HTB : Hid (Blk wr TB 1 (fun _ => .slice (some ⟨TM, 0, none⟩) E.n E.n)) := hTB
      have HTM : Hid (Blk wr TM E.n (fun i => .bool (!s.ow i))) := hTM5
      have HL5 : Hid (Below w.heap.size w wr) := hlow5
      have HCD : Hid (∀ k, k < E.n → s.cd k = false) := hcd
      have hTMl5 : TM < wr.heap.size := Nat.lt_of_lt_of_le hTl.1 HK.out.size
      clear HR HB HK hst hAr hTB hfin hTM5 hlow5 hN hc206 hcd hTM HKP HLW
      go_wp2_with fail
      refine (blen_any _ _ _ _).mono ?_
      rintro e w5 ⟨rfl, rfl⟩
      go_upto_if 241 with fail
      refine wp_cond_false rfl ?_
      refine wp_skip ?_
      rename_i hK
      exact hK _ _ (law_check E W og s hnm HI HCD w nb TS OG SR IS TB TM w5 HST HAR HTB HTM hTMl5 HL5 _ _ _ _ _ _ _ _ _ _ _ _ _ _ _ _ _ _ _ _ _ _ _ _ _ _ _ _ _ _ _ _ _ _ _ _ _ _ _ _ _ _ _ _ _ _ _ _ _ _ _ _ _ _ _ _ _ _ _ _ _ _ _ _ _ _ _ _ _ _ _ _ _ _ _ _ _ _ _ _ _ _ _ _ _ _ _ _ _ _ _ _ _ _ _ _ _ _ _ _ _ _ _ _ _ _ _ _ _ _ _ _ _ _ _ _ _ _ _ _ _ _ _ _ _ _ _ _ _ _ _ _ _ _ _ _ _ _ _ _ _ _ _ _ _ _ _ _ _ _ _ _ _ _ _ _ _ _ _ _ _ _ _ _ _ _ _ _ _ _ _ _ _ _ _ _ _ _ _ _ _ _ _ _ _ _ _ _ _ _ _ _ _ _ _ _ _ _ _ _ _ _ _ _ _ _ _ _ _ _ _ _ _ _ _ _ _ _ _ _ _)

end Go.Proofs.YbulkbpdqGreat
