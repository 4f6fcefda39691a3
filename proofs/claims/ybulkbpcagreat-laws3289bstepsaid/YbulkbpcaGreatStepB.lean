import Derived.Test.YbulkbpcaGreatStepC
import Derived.Test.YbulkbpcaGreatStepG
import Derived.Test.YbulkbpcaGreatTickA
namespace Go.Proofs.YbulkbpcaGreat
open Go.ChangeShapes Go.WideShapes Go.ChangeAt Go.RowKit
set_option linter.unusedVariables false
attribute [local go_sem ↓] eq_peer
attribute [local go_sem] guard_peer field_key msg_cells rowL_drew rowL_drewN rowL_alloc rowL_setCell load_msg store_askS build_sent build_sentSl
attribute [local go_sem ↓] load_msg0 store_msg0 build_sent0 build_sentSl0

set_option maxRecDepth 1000000 in
set_option maxHeartbeats 4000000 in
/-- The law from its third loop on. -/
theorem step_loop (w : World) (H S N E W T U A gS nS Ww Wa Wu Wt Bq : Nat) (uk ua pk pa : ByteArray) (sk sa : Nat → ByteArray) (f b : Tb) (ww0 wa0 wu0 wt0 : Nat → Value) (wz : World)
    (hF : LF w H S N E W T U A gS nS Ww uk ua sk sa f b wz) (hL : LB Ww Wa Wu Wt Bq ww0 wa0 wu0 wt0 (.slice none 0 0) [] wz)
    (hfk : f.k < f.n) (hbk' : b.k < b.n) (hfn : f.n ≤ 1024) (hbn : b.n ≤ 1024) (hsn : nS ≤ 1024) (huF : 0 ≤ f.u ∧ f.u < 3) (huB : 0 ≤ b.u ∧ b.u < 3)
    (hpk : pk = pick3 f.n b.n f.kf b.kf sk (passIx (nS + f.n + b.n))) (hpa : pa = pick3 f.n b.n f.af b.af sa (passIx (nS + f.n + b.n)))
    (j0 j1 j2 j3 j4 j5 j6 j7 j8 j9 j10 j11 j12 j13 j14 j15 j16 j17 j18 j19 j20 j21 j31 j32 j34 j35 j55 j56 j57 j58 j59 j60 j61 j62 j63 j64 j65 j66 j67 j68 j69 j70 j71 j72 j73 j74 j75 j76 j77 j78 j79 j80 j81 j82 j83 j84 j85 j86 j87 j88 j89 j90 j91 j92 j93 j94 j95 j96 j97 j98 j99 j100 j101 j102 j103 j104 j105 j106 j107 j108 j109 j110 j111 j112 j113 j114 j115 j116 j117 j118 j119 j120 j121 j122 j123 j124 j125 j126 j127 j128 j129 j130 j131 j132 j133 j134 j135 j136 j137 j138 j139 j140 j141 j142 j143 j144 j145 j146 j147 j148 j149 j150 j151 j152 j153 j154 j155 j156 j157 j158 j159 j160 j161 j162 j163 j164 j165 j166 j167 j168 j169 j170 j171 j172 j173 j174 j175 j176 j177 j178 j179 j180 j181 j182 j183 j184 j185 : Value) :
    Code.wp Ybaz.prog ((Ybaz.f3.body.bind (afterRegion 33)).getD .skip) (bodyPost Ybaz.prog Ybaz.f3 fun e w' => e = .returned (.bool true) ∧ Below w.heap.size w w')
      ⟨#[j0, j1, j2, j3, j4, j5, j6, j7, j8, j9, j10, j11, j12, j13, j14, j15, j16, j17, j18, j19, j20, j21, .bool false, .pointer (some ⟨H, 0, none⟩), .pointer (some ⟨S, 0, none⟩), .pointer (some ⟨N, 0, none⟩), .pointer (some ⟨E, 0, none⟩), .pointer (some ⟨W, 0, none⟩), .pointer (some ⟨T, 0, none⟩), .pointer (some ⟨U, 0, none⟩), .pointer (some ⟨A, 0, none⟩), j31, j32, .slice (some ⟨gS, 0, none⟩) nS nS, j34, j35, .slice none 0 0, .pointer (some ⟨Ww, 0, none⟩), .pointer (some ⟨Wa, 0, none⟩), .pointer (some ⟨Wu, 0, none⟩), .pointer (some ⟨Wt, 0, none⟩), undef, undef, undef, undef, undef, undef, undef, undef, undef, undef, undef, undef, undef, undef, j55, j56, j57, j58, j59, j60, j61, j62, j63, j64, j65, j66, j67, j68, j69, j70, j71, j72, j73, j74, j75, j76, j77, j78, j79, j80, j81, j82, j83, j84, j85, j86, j87, j88, j89, j90, j91, j92, j93, j94, j95, j96, j97, j98, j99, j100, j101, j102, j103, j104, j105, j106, j107, j108, j109, j110, j111, j112, j113, j114, j115, j116, j117, j118, j119, j120, j121, j122, j123, j124, j125, j126, j127, j128, j129, j130, j131, j132, j133, j134, j135, j136, j137, j138, j139, j140, j141, j142, j143, j144, j145, j146, j147, j148, j149, j150, j151, j152, j153, j154, j155, j156, j157, j158, j159, j160, j161, j162, j163, j164, j165, j166, j167, j168, j169, j170, j171, j172, j173, j174, j175, j176, j177, j178, j179, j180, j181, j182, j183, j184, j185, undef, undef, undef, undef, undef, undef, undef, undef, undef, undef, undef, undef, undef, undef, undef, undef, undef, undef, undef, undef, undef, undef, undef, undef, undef, undef, undef, undef, undef, undef, undef, undef, undef, undef, undef, undef, undef, undef, undef, undef, undef, undef, undef, undef, undef, undef, undef, undef, undef, undef, undef, undef, undef, undef, undef, undef, undef, undef, undef, undef, undef, undef, undef, undef, undef, undef, undef, undef, undef, undef, undef, undef, undef, undef, undef, undef, undef, undef, undef, undef, undef, undef, undef, undef, undef, undef, undef, undef, undef, undef, undef, undef, undef, undef, undef, undef, undef, undef, undef, undef, undef, undef, undef, undef, undef, undef, undef, undef, undef, undef, undef, undef, undef, undef, undef, undef, undef, undef, undef, undef, undef, undef, undef, undef, undef, undef, undef, undef, undef, undef, undef, undef, undef, undef, undef, undef, undef, undef, undef, undef, undef, undef, undef, undef, undef, undef, undef, undef, undef, undef, undef, undef, undef, undef, undef, undef, undef, undef, undef, undef, undef, undef, undef, undef, undef, undef, undef, undef, undef, undef, undef, undef, undef, undef, undef, undef, undef, undef, undef, undef, undef, undef, undef, undef, undef, undef, undef, undef, undef, undef, undef, undef, undef, undef, undef, undef, undef, undef, undef, undef, undef, undef, undef, undef, undef, undef, undef, undef, undef, undef, undef, undef, undef, undef, undef, undef, undef, undef, undef, undef, undef, undef, undef, undef, undef, undef, undef, undef, undef, undef, undef, undef, undef, undef, undef, undef, undef, undef, undef, undef, undef, undef, undef, undef, undef, undef, undef, undef, undef, undef, undef, undef, undef, undef, undef, undef, undef, undef, undef, undef, undef, undef, undef, undef, undef, undef, undef, undef, undef, undef, undef, undef, undef, undef, undef, undef, undef, undef, undef, undef, undef, undef, undef, undef, undef, undef, undef, undef, undef, undef, undef, undef, undef], []⟩ wz := by
  have HPK : Hid (pk = _ ∧ pa = _) := ⟨hpk, hpa⟩
  clear hpk hpa
  conv => arg 2; whnf
  go_wp2_with fail
  go_loopw [36, 41] (fun V i wr => (i = .int .i64 0 ∧ LF w H S N E W T U A gS nS Ww uk ua sk sa f b wr ∧ ∃ ww wa wu wt, LB Ww Wa Wu Wt Bq ww wa wu wt V [] wr) ∨ (i = .int .i64 1 ∧ LF w H S N E W T U A gS nS Ww uk ua sk sa f b wr ∧ ∃ ww wa wu wt, LB Ww Wa Wu Wt Bq ww wa wu wt V (f.sent b 0 uk ua pk pa) wr ∧ Done0 f.step ww wa wu wt) ∨ (i = .int .i64 2 ∧ LF w H S N E W T U A gS nS Ww uk ua sk sa f b wr ∧ ∃ ww wa wu wt, LB Ww Wa Wu Wt Bq ww wa wu wt V (f.sent b 0 uk ua pk pa ++ b.sent f 1 uk ua ⟨#[]⟩ ⟨#[]⟩) wr ∧ Done0 f.step ww wa wu wt ∧ Done1 b.step ww wa wu wt)) (fun _ i _ => 2 - (intOf i).toNat)
  case atStart => exact .inl ⟨rfl, hF, _, _, _, _, hL⟩
  case round =>
    clear hF hL
    rcases hrel with ⟨rfl, hF, ww, wa, wu, wt, hL⟩ | ⟨rfl, hF, ww, wa, wu, wt, hL, hD0⟩ | ⟨rfl, hF, ww, wa, wu, wt, hL, hD0, hD1⟩
    · obtain ⟨LS, hLS⟩ : ∃ LS : List (List Value), LS = [] := ⟨_, rfl⟩
      rw [← hLS] at hL
      have HLS : Hid (LS.length ≤ 1 ∧ LS = []) := ⟨by rw [hLS]; simp, hLS⟩
      clear hLS
      have hlsl : LS.length ≤ 1 := HLS.out.1
      obtain ⟨tk, htk⟩ : ∃ tk, tk = f.kf f.k := ⟨_, rfl⟩
      obtain ⟨ta, hta⟩ : ∃ ta, ta = f.af f.k := ⟨_, rfl⟩
      have w0 : wr.cell? ⟨W, 0, none⟩ = some (.int .i64 f.k) := hF.wk.1 0 (by omega)
      have e0 : wr.cell? ⟨E, 0, none⟩ = some (.slice (some ⟨f.g, 0, none⟩) f.n f.n) := hF.e.1 0 (by omega)
      have r0 : wr.cell? ⟨f.g, f.k * 3, none⟩ = some (.string tk) := by rw [htk]; exact (hF.rf f.k hfk).1
      have r1 : wr.cell? ⟨f.g, f.k * 3 + 1, none⟩ = some (.string ta) := by rw [hta]; exact (hF.rf f.k hfk).2
      have a0 : wr.cell? ⟨A, 0, none⟩ = some (.string f.qk) := hF.a.1 0 (by omega)
      have a1 : wr.cell? ⟨A, 1, none⟩ = some (.string f.qa) := hF.a.1 1 (by omega)
      have uc : wr.cell? ⟨U, 0, none⟩ = some (.int .i64 f.u) := hF.u.1 0 (by omega)
      have HTK : Hid (tk = f.kf f.k ∧ ta = f.af f.k) := ⟨htk, hta⟩
      clear htk hta
      have hord := hF.ord
      have hAl : A < wr.heap.size := by omega
      have hUl : U < wr.heap.size := by omega
      have hk0 : (0 : Int) ≤ (f.k : Int) := by omega
      have hk7 : (f.k : Int) < (f.n : Int) := by omega
      obtain ⟨u0, hu0⟩ : ∃ u0, u0 = f.u0 := ⟨_, rfl⟩
      have hue : f.u0 = if peq tk ta f.qk f.qa then f.u else 0 := by rw [HTK.out.1, HTK.out.2]; rfl
      have hun : 0 ≤ u0 ∧ u0 < 3 := by rw [hu0, hue]; split <;> omega
      have HU : Hid (u0 = f.u0) := hu0
      have HUE : Hid _ := hue
      clear hu0 hue
      go_upto_if 208 with fail
      have hB1 : Below wr.heap.size wr ((wr.alloc (.cells #[.string tk, .string ta] 30)).alloc (.cells #[.string f.qk, .string f.qa] 30)) := ((Below.refl _ wr).alloc (Nat.le_refl _) _).alloc (by simp) _
      have hx1 := (peer_fresh wr tk ta 30).alloc (by simp) (.cells #[.string f.qk, .string f.qa] 30)
      have hx2 := peer_fresh (wr.alloc (.cells #[.string tk, .string ta] 30)) f.qk f.qa 30
      rw [World.size_alloc] at hx2
      obtain ⟨B1, hB1e⟩ : ∃ B1, B1 = wr.heap.size := ⟨_, rfl⟩
      rw [← hB1e] at hx1 hx2
      rw [← hB1e]
      generalize World.alloc (World.alloc wr _) _ = wa' at hB1 hx1 hx2 ⊢
      have HB1 : Hid (B1 = wr.heap.size) := hB1e
      clear hB1e w0 e0 r0 r1 a0 a1 uc hAl hUl
      go_cut [45] from 208 to 209 (fun v wx => v = .int .i64 u0 ∧ Blk wx B1 2 (peerC tk ta) ∧ Blk wx (B1 + 1) 2 (peerC tk ta) ∧ Below wr.heap.size wr wx)
      case first =>
        by_cases hpq : peq tk ta f.qk f.qa = true
        · have hnq : (!peq tk ta f.qk f.qa) = false := by rw [hpq]; rfl
          rw [hnq]
          go_wp2_with fail
          have hq := (peq_iff _ _ _ _).1 hpq
          have hu1 : u0 = f.u := by rw [HU.out, HUE.out, if_pos hpq]
          go_meet
          case rel => exact ⟨by rw [hu1], hx1, by rw [hq.1, hq.2]; exact hx2, hB1⟩
        · replace hpq : peq tk ta f.qk f.qa = false := by simpa using hpq
          have hnq : (!peq tk ta f.qk f.qa) = true := by rw [hpq]; rfl
          rw [hnq]
          have hu1 : u0 = 0 := by rw [HU.out, HUE.out, hpq]; rfl
          have t0 : wa'.cell? ⟨B1, 0, none⟩ = some (.string tk) := hx1.1 0 (by omega)
          have t1 : wa'.cell? ⟨B1, 1, none⟩ = some (.string ta) := hx1.1 1 (by omega)
          have t2 := hx2.1 0 (by omega)
          have t3 := hx2.1 1 (by omega)
          have t4 := hx2.2 0
          have t5 := hx2.2 1
          have hB2 : Below wr.heap.size wr ((wa'.setCell ⟨B1 + 1, 0, none⟩ (.string tk)).setCell ⟨B1 + 1, 1, none⟩ (.string ta)) := (hB1.setCell (by have := HB1.out; show _ ≤ B1 + 1; omega) _).setCell (by have := HB1.out; show _ ≤ B1 + 1; omega) _
          have hx3 := (hx1.setOther ⟨B1 + 1, 0, none⟩ (by show B1 ≠ B1 + 1; omega) (.string tk)).setOther ⟨B1 + 1, 1, none⟩ (by show B1 ≠ B1 + 1; omega) (.string ta)
          have hx4 := ((hx2.set 0 (by omega) (.string tk)).set 1 (by omega) (.string ta)).congr (d := peerC tk ta) (fun j hj => by rcases (show j = 0 ∨ j = 1 from by omega) with rfl | rfl <;> rfl)
          go_wp2_with fail
          go_meet
          case rel => exact ⟨by rw [hu1], hx3, hx4, hB2⟩
      case rest =>
        obtain ⟨rfl, hx1', hx2', hBx⟩ := hcut
        clear hB1 hx1 hx2
        obtain ⟨wx, hwx⟩ : ∃ wx, wx = wc := ⟨_, rfl⟩
        rw [← hwx] at hx1' hx2' hBx
        rw [← hwx]
        clear hwx
        have hFx := hF.laterS hBx
        have hLx := hL.later hBx
        have HV0 : Hid (∀ k, u36.ownBlock = some k → k < wr.heap.size) := fun k hk => (hL.v.lt k hk).2
        have hBq : Bq ≤ wr.heap.size := hL.ord.2.2.2.2
        clear hF hL
        go_upto_if 211 with fail
        go_cut [46] from 211 to 214 (fun v wy => v = .int .u64 (bitOf f.k) ∧ wy = wx)
        case first =>
          by_cases h64 : f.k < 64
          · have hd64 : decide ((f.k : Int) < 64) = true := decide_eq_true (by omega)
            have HBT : Hid _ := bit_low h64
            go_wp2_with fail
            go_meet
            case rel => exact ⟨by rw [HBT.out], rfl⟩
          · have hd64 : decide ((f.k : Int) < 64) = false := decide_eq_false (by omega)
            have HBT : Hid _ := bit_high h64
            go_wp2_with fail
            go_meet
            case rel => exact ⟨by rw [HBT.out], rfl⟩
        case rest =>
          obtain ⟨rfl, rfl⟩ := hcut
          have hord2 := hLx.ord
          have hb1l := hx2'.lt (by omega)
          have b1e := HB1.out
          have tc : wc.cell? ⟨T, 0, none⟩ = some (.int .u64 f.t) := hFx.t.1 0 (by omega)
          have t0 := hLx.bt.1 0 (by omega)
          have t0f := hLx.bt.2 0
          have n1 : Ww ≠ Wt := by omega
          have n2 : Wa ≠ Wt := by omega
          have n3 : Wu ≠ Wt := by omega
          have n4 : Wa ≠ Ww := by omega
          have n5 : Wu ≠ Ww := by omega
          have n6 : Wu ≠ Wa := by omega
          have n7 : E ≠ Wt := by omega
          have n8 : S ≠ Wt := by omega
          have n9 : B1 + 1 ≠ Wt := by omega
          have n10 : B1 + 1 ≠ Ww := by omega
          have n11 : B1 + 1 ≠ Wa := by omega
          clear b1e
          have e0 : wc.cell? ⟨E, 0, none⟩ = some (.slice (some ⟨f.g, 0, none⟩) f.n f.n) := hFx.e.1 0 (by omega)
          have p0 : wc.cell? ⟨B1 + 1, 0, none⟩ = some (.string tk) := hx2'.1 0 (by omega)
          have p1 : wc.cell? ⟨B1 + 1, 1, none⟩ = some (.string ta) := hx2'.1 1 (by omega)
          have v0 := hLx.bw.1 0 (by omega)
          have v0f := hLx.bw.2 0
          have y0 := hLx.ba.1 0 (by omega)
          have y0f := hLx.ba.2 0
          have y1 := hLx.ba.1 1 (by omega)
          have y1f := hLx.ba.2 1
          have z0 := hLx.bu.1 0 (by omega)
          have z0f := hLx.bu.2 0
          by_cases htd : toldAt f.t f.k = true
          · have ht : (bits BinOp.and IntKind.u64 f.t (bitOf f.k) != 0) = true := htd
            have HR : Hid (LF w H S N E W T U A gS nS Ww uk ua sk sa f b (((((wc.setCell ⟨Wt, 0, none⟩ (.int .u64 (bits .andNot .u64 f.t (bitOf f.k)))).setCell ⟨Ww, 0, none⟩ (.int .i64 (stepUp f.k f.n))).setCell ⟨Wa, 0, none⟩ (.string tk)).setCell ⟨Wa, 1, none⟩ (.string ta)).setCell ⟨Wu, 0, none⟩ (.int .i64 u0)) ∧
                ∃ ww wa wu wt, LB Ww Wa Wu Wt Bq ww wa wu wt u36 (f.sent b 0 uk ua pk pa) (((((wc.setCell ⟨Wt, 0, none⟩ (.int .u64 (bits .andNot .u64 f.t (bitOf f.k)))).setCell ⟨Ww, 0, none⟩ (.int .i64 (stepUp f.k f.n))).setCell ⟨Wa, 0, none⟩ (.string tk)).setCell ⟨Wa, 1, none⟩ (.string ta)).setCell ⟨Wu, 0, none⟩ (.int .i64 u0)) ∧ Done0 f.step ww wa wu wt) := by
              have es : f.sent b 0 uk ua pk pa = LS := by rw [HLS.out.2]; unfold Tb.sent Tb.told; rw [htd]; rfl
              have htd2 : f.told = true := htd
              refine ⟨((((hFx.set Wt 0 (by omega) _).set Ww 0 (by omega) _).set Wa 0 (by omega) _).set Wa 1 (by omega) _).set Wu 0 (by omega) _, _, _, _, _, by rw [es]; exact ((((hLx.setT 0 (by omega) _).setW 0 (by omega) _).setA 0 (by omega) _).setA 1 (by omega) _).setU 0 (by omega) _, ?_⟩
              unfold Done0 Tb.step
              rw [htd2, ← HTK.out.1, ← HTK.out.2, ← HU.out]
              exact ⟨rfl, rfl, rfl, rfl, rfl⟩
            clear hFx hLx HUE HV0
            by_cases hs : f.k + 1 < f.n
            · have HSU : Hid (stepUp f.k f.n = f.k + 1) := if_pos hs
              have hd : decide ((f.k : Int) + 1 < (f.n : Int)) = true := decide_eq_true (by omega)
              go_wp2_with fail
              go_roundw
              case measure => simp [intOf]
              case rel => rw [HSU.out] at HR; exact .inr (.inl ⟨rfl, HR.out⟩)
            · have HSU : Hid (stepUp f.k f.n = 0) := if_neg hs
              have hd : decide ((f.k : Int) + 1 < (f.n : Int)) = false := decide_eq_false (by omega)
              go_wp2_with fail
              go_roundw
              case measure => simp [intOf]
              case rel => rw [HSU.out] at HR; exact .inr (.inl ⟨rfl, HR.out⟩)
          · replace htd : toldAt f.t f.k = false := by simpa using htd
            have ht : (bits BinOp.and IntKind.u64 f.t (bitOf f.k) != 0) = false := htd
            have s0 : wc.cell? ⟨S, 0, none⟩ = some (.string uk) := hFx.s.1 0 (by omega)
            have s1 : wc.cell? ⟨S, 1, none⟩ = some (.string ua) := hFx.s.1 1 (by omega)
            have e1 : wc.cell? ⟨E, 1, none⟩ = some (.slice (some ⟨b.g, 0, none⟩) b.n b.n) := hFx.e.1 1 (by omega)
            have hEl : E < wc.heap.size := by omega
            obtain ⟨hun0, hun3⟩ := hun
            have hwr1 : IntKind.i64.wrap ((f.k : Int) - 1) = (f.k : Int) - 1 := IntWalk.i64_in _ ⟨by omega, by omega⟩
            go_wp2_with fail
            have hM2 : (wc.setCell ⟨Wt, 0, none⟩ (.int .u64 (bits .andNot .u64 f.t (bitOf f.k)))).heap.size = wc.heap.size := by simp
            have hm := msg_fresh (wc.setCell ⟨Wt, 0, none⟩ (.int .u64 (bits .andNot .u64 f.t (bitOf f.k)))) (askS 0 f.k uk ua) 72
            have hFy := hFx.set Wt 0 (by omega) (.int .u64 (bits .andNot .u64 f.t (bitOf f.k)))
            have hLy := hLx.setT 0 (by omega) (.int .u64 (bits .andNot .u64 f.t (bitOf f.k)))
            have hy1 := hx1'.setOther ⟨Wt, 0, none⟩ (by have := HB1.out; show B1 ≠ Wt; omega) (.int .u64 (bits .andNot .u64 f.t (bitOf f.k)))
            have hy2 := hx2'.setOther ⟨Wt, 0, none⟩ n9 (.int .u64 (bits .andNot .u64 f.t (bitOf f.k)))
            rw [hM2] at hm
            obtain ⟨M, hM⟩ : ∃ M, M = wc.heap.size := ⟨_, rfl⟩
            rw [← hM] at hm hM2
            rw [← hM]
            have hMB1 : B1 + 1 < M := by omega
            clear tc t0 t0f e0 p0 p1 v0 v0f y0 y0f y1 y1f z0 z0f s0 s1 e1 hEl hFx hLx hx1' hx2' hM hb1l
            generalize World.setCell wc _ _ = wy at hm hM2 hFy hLy hy1 hy2 ⊢
            have hB0 : Below wy.heap.size wy (wy.alloc (.cells (mA (askS 0 f.k uk ua)) 72)) := (Below.refl _ _).alloc (Nat.le_refl _) _
            have hMl : M < (wy.alloc (.cells (mA (askS 0 f.k uk ua)) 72)).heap.size := by simp; omega
            have hMb : MB w H S N E W T U A gS nS Ww Wa Wu Wt Bq B1 M uk ua tk ta sk sa f b ww wa wu (upd wt 0 (.int .u64 (bits .andNot .u64 f.t (bitOf f.k)))) u36 LS (askS 0 f.k uk ua) (wy.alloc (.cells (mA (askS 0 f.k uk ua)) 72)) :=
              ⟨hFy.laterS hB0, hLy.later hB0, hy1.below hB0 (by omega), hy2.below hB0 (by omega), hm, fun k hk => by rw [HB1.out]; exact HV0.out k hk, ⟨by rw [HB1.out]; exact hBq, hMB1, hMl⟩⟩
            clear hm hFy hLy hy1 hy2 hB0 hMl hM2
            generalize World.alloc wy _ = wd at hMb ⊢
            have hq := hMb.f.ord
            have ho := hMb.o
            refine (passonL_any f.g b.g gS f.n b.n nS f.n b.n nS f.kf f.af b.kf b.af sk sa wd (by omega) (by omega) (by omega) hfn hbn hsn (by omega) hMb.f.rf hMb.f.rb hMb.f.rs).mono ?_
            rintro e we ⟨rfl, hBe⟩
            rw [← HPK.out.1, ← HPK.out.2]
            have hMe := hMb.later hBe
            clear hMb hBe hq ho
            have m6 := hMe.m.1 6 (by omega)
            have m7 := hMe.m.1 7 (by omega)
            have k6 := hMe.m.2 6
            have k7 := hMe.m.2 7
            have e1 : we.cell? ⟨E, 1, none⟩ = some (.slice (some ⟨b.g, 0, none⟩) b.n b.n) := hMe.f.e.1 1 (by omega)
            have hEM : E ≠ M := by have := HB1.out; omega
            go_wp2_with fail
            have hMf := (hMe.set 6 (by omega) (.string pk)).set 7 (by omega) (.string pa)
            clear hMe m6 m7 k6 k7 e1
            generalize World.setCell (World.setCell we _ _) _ _ = wf at hMf ⊢
            have hq := hMf.f.ord
            have ho := hMf.o
            refine (at_any b.g b.n b.n b.kf b.af f.k wf (by omega) hMf.f.rb).mono ?_
            rintro e wg ⟨rfl, hBg⟩
            have hMg := hMf.later hBg
            clear hMf hBg hq ho
            have m14 := hMg.m.1 14 (by omega)
            have m15 := hMg.m.1 15 (by omega)
            have k14 := hMg.m.2 14
            have k15 := hMg.m.2 15
            go_wp2_with fail
            have hMh := (hMg.set 14 (by omega) (.string (atP b.n b.kf f.k))).set 15 (by omega) (.string (atP b.n b.af f.k))
            clear hMg m14 m15 k14 k15
            generalize World.setCell (World.setCell wg _ _) _ _ = wh at hMh ⊢
            have hq := hMh.f.ord
            have ho := hMh.o
            refine (at_any b.g b.n b.n b.kf b.af ((f.k : Int) - 1) wh (by omega) hMh.f.rb).mono ?_
            rintro e wi ⟨rfl, hBi⟩
            have hMi := hMh.later hBi
            clear hMh hBi hq ho
            have m16 := hMi.m.1 16 (by omega)
            have k16 := hMi.m.2 16
            have hMj := (hMi.set 16 (by omega) (.string (atP b.n b.kf ((f.k : Int) - 1)))).congr (ask_eqFS f.k pk pa (atP b.n b.kf f.k) (atP b.n b.af f.k) (atP b.n b.kf ((f.k : Int) - 1)) uk ua)
            go_upto_region 63 with fail
            have HS1 : Hid _ := ask_oneS 0 f.k pk pa (atP b.n b.kf f.k) (atP b.n b.af f.k) (atP b.n b.kf ((f.k : Int) - 1)) tk ta uk ua
            have HSN : Hid (f.sent b 0 uk ua pk pa = LS ++ [sL tk ta (upd (upd (askC 0 pk pa (atP b.n b.kf f.k) (atP b.n b.af f.k) (atP b.n b.kf ((f.k : Int) - 1)) f.k) 4 (.string uk)) 5 (.string ua))]) := by
              have htd2 : f.told = false := htd
              unfold Tb.sent; rw [htd2, HTK.out.1, HTK.out.2, HLS.out.2]; rfl
            clear hMi m16 k16
            generalize World.setCell wi _ _ = wj at hMj ⊢
            generalize upd (upd (askC 0 pk pa (atP b.n b.kf f.k) (atP b.n b.af f.k) (atP b.n b.kf ((f.k : Int) - 1)) f.k) 4 (.string uk)) 5 (.string ua) = cm at hMj HS1 HSN
            have p0 : wj.cell? ⟨B1, 0, none⟩ = some (.string tk) := hMj.x1.1 0 (by omega)
            have p1 : wj.cell? ⟨B1, 1, none⟩ = some (.string ta) := hMj.x1.1 1 (by omega)
            have hrow := msg_rowL hMj.m
            have hbq := hMj.l.ord
            have hoj := hMj.o
            obtain ⟨i0, hi, hz0, hz1, hz2⟩ := info_parts Ybaz.infoSentZ
            go_wp2_with (first
              | (at_builtin; refine wpList_append_lies _ rfl _ _ 25 rfl Bq 76 i0 _ 25 304 Ybaz.underlying25 hi hz0 hz1 hz2 rfl (by decide) u36 LS.length LS.flatten rfl (hMj.l.v.alloc _) ⟨wj.heap.size, 0, none⟩ 1 1 (sL tk ta cm) rfl rfl (World.news_of_block (cs := sA tk ta cm) (t := 76) (fr := (0, 0)) (heap_alloc_new wj _)) HS1.out (by omega) (by unfold maxLen; omega) (by omega) (by simp; omega) (wj.heap.size + 1) (by simp) ?_)
              | go_in)
            intro g cap w4 hown hgrow hgb hgl
            obtain ⟨hL4, hB4, hkeep⟩ := hMj.l.app hown hgrow
            have hF4 := hMj.f.later (hB4.mono (by omega))
            have hx4 := hkeep _ _ _ hMj.x2 (by omega) (fun e => by have := hMj.q _ e; omega)
            clear hown hgrow hgb hgl hkeep hMj p0 p1 hrow hi hz0 hz1 hz2
            rw [← HSN.out] at hL4
            have p0 : w4.cell? ⟨B1 + 1, 0, none⟩ = some (.string tk) := hx4.1 0 (by omega)
            have p1 : w4.cell? ⟨B1 + 1, 1, none⟩ = some (.string ta) := hx4.1 1 (by omega)
            have v0 := hL4.bw.1 0 (by omega)
            have v0f := hL4.bw.2 0
            have y0 := hL4.ba.1 0 (by omega)
            have y0f := hL4.ba.2 0
            have y1 := hL4.ba.1 1 (by omega)
            have y1f := hL4.ba.2 1
            have z0 := hL4.bu.1 0 (by omega)
            have z0f := hL4.bu.2 0
            have HR : Hid (LF w H S N E W T U A gS nS Ww uk ua sk sa f b ((((w4.setCell ⟨Ww, 0, none⟩ (.int .i64 f.k)).setCell ⟨Wa, 0, none⟩ (.string tk)).setCell ⟨Wa, 1, none⟩ (.string ta)).setCell ⟨Wu, 0, none⟩ (.int .i64 (u0 + 1))) ∧
                ∃ ww wa wu wt, LB Ww Wa Wu Wt Bq ww wa wu wt (.slice (some ⟨g, 0, none⟩) (LS.length + 1) cap) (f.sent b 0 uk ua pk pa) ((((w4.setCell ⟨Ww, 0, none⟩ (.int .i64 f.k)).setCell ⟨Wa, 0, none⟩ (.string tk)).setCell ⟨Wa, 1, none⟩ (.string ta)).setCell ⟨Wu, 0, none⟩ (.int .i64 (u0 + 1))) ∧ Done0 f.step ww wa wu wt) := by
              have htd2 : f.told = false := htd
              refine ⟨(((hF4.set Ww 0 (by omega) _).set Wa 0 (by omega) _).set Wa 1 (by omega) _).set Wu 0 (by omega) _, _, _, _, _, (((hL4.setW 0 (by omega) _).setA 0 (by omega) _).setA 1 (by omega) _).setU 0 (by omega) _, ?_⟩
              unfold Done0 Tb.step
              rw [htd2, ← HTK.out.1, ← HTK.out.2, ← HU.out]
              exact ⟨rfl, rfl, rfl, rfl, rfl⟩
            clear hF4 hL4 hx4
            go_wp2_with fail
            go_roundw
            case measure => simp [intOf]
            case rel => exact .inr (.inl ⟨rfl, HR.out⟩)
    · obtain ⟨LS, hLS⟩ : ∃ LS : List (List Value), LS = f.sent b 0 uk ua pk pa := ⟨_, rfl⟩
      rw [← hLS] at hL
      have HLS : Hid (LS.length ≤ 1 ∧ LS = f.sent b 0 uk ua pk pa) := ⟨by rw [hLS]; unfold Tb.sent; split <;> simp, hLS⟩
      clear hLS
      have hlsl : LS.length ≤ 1 := HLS.out.1
      obtain ⟨tk, htk⟩ : ∃ tk, tk = b.kf b.k := ⟨_, rfl⟩
      obtain ⟨ta, hta⟩ : ∃ ta, ta = b.af b.k := ⟨_, rfl⟩
      have w0 : wr.cell? ⟨W, 1, none⟩ = some (.int .i64 b.k) := hF.wk.1 1 (by omega)
      have e0 : wr.cell? ⟨E, 1, none⟩ = some (.slice (some ⟨b.g, 0, none⟩) b.n b.n) := hF.e.1 1 (by omega)
      have r0 : wr.cell? ⟨b.g, b.k * 3, none⟩ = some (.string tk) := by rw [htk]; exact (hF.rb b.k hbk').1
      have r1 : wr.cell? ⟨b.g, b.k * 3 + 1, none⟩ = some (.string ta) := by rw [hta]; exact (hF.rb b.k hbk').2
      have a0 : wr.cell? ⟨A, 2, none⟩ = some (.string b.qk) := hF.a.1 2 (by omega)
      have a1 : wr.cell? ⟨A, 3, none⟩ = some (.string b.qa) := hF.a.1 3 (by omega)
      have uc : wr.cell? ⟨U, 1, none⟩ = some (.int .i64 b.u) := hF.u.1 1 (by omega)
      have HTK : Hid (tk = b.kf b.k ∧ ta = b.af b.k) := ⟨htk, hta⟩
      clear htk hta
      have hord := hF.ord
      have hAl : A < wr.heap.size := by omega
      have hUl : U < wr.heap.size := by omega
      have hk0 : (0 : Int) ≤ (b.k : Int) := by omega
      have hk7 : (b.k : Int) < (b.n : Int) := by omega
      obtain ⟨u0, hu0⟩ : ∃ u0, u0 = b.u0 := ⟨_, rfl⟩
      have hue : b.u0 = if peq tk ta b.qk b.qa then b.u else 0 := by rw [HTK.out.1, HTK.out.2]; rfl
      have hun : 0 ≤ u0 ∧ u0 < 3 := by rw [hu0, hue]; split <;> omega
      have HU : Hid (u0 = b.u0) := hu0
      have HUE : Hid _ := hue
      clear hu0 hue
      go_upto_if 208 with fail
      have hB1 : Below wr.heap.size wr ((wr.alloc (.cells #[.string tk, .string ta] 30)).alloc (.cells #[.string b.qk, .string b.qa] 30)) := ((Below.refl _ wr).alloc (Nat.le_refl _) _).alloc (by simp) _
      have hx1 := (peer_fresh wr tk ta 30).alloc (by simp) (.cells #[.string b.qk, .string b.qa] 30)
      have hx2 := peer_fresh (wr.alloc (.cells #[.string tk, .string ta] 30)) b.qk b.qa 30
      rw [World.size_alloc] at hx2
      obtain ⟨B1, hB1e⟩ : ∃ B1, B1 = wr.heap.size := ⟨_, rfl⟩
      rw [← hB1e] at hx1 hx2
      rw [← hB1e]
      generalize World.alloc (World.alloc wr _) _ = wa' at hB1 hx1 hx2 ⊢
      have HB1 : Hid (B1 = wr.heap.size) := hB1e
      clear hB1e w0 e0 r0 r1 a0 a1 uc hAl hUl
      go_cut [45] from 208 to 209 (fun v wx => v = .int .i64 u0 ∧ Blk wx B1 2 (peerC tk ta) ∧ Blk wx (B1 + 1) 2 (peerC tk ta) ∧ Below wr.heap.size wr wx)
      case first =>
        by_cases hpq : peq tk ta b.qk b.qa = true
        · have hnq : (!peq tk ta b.qk b.qa) = false := by rw [hpq]; rfl
          rw [hnq]
          go_wp2_with fail
          have hq := (peq_iff _ _ _ _).1 hpq
          have hu1 : u0 = b.u := by rw [HU.out, HUE.out, if_pos hpq]
          go_meet
          case rel => exact ⟨by rw [hu1], hx1, by rw [hq.1, hq.2]; exact hx2, hB1⟩
        · replace hpq : peq tk ta b.qk b.qa = false := by simpa using hpq
          have hnq : (!peq tk ta b.qk b.qa) = true := by rw [hpq]; rfl
          rw [hnq]
          have hu1 : u0 = 0 := by rw [HU.out, HUE.out, hpq]; rfl
          have t0 : wa'.cell? ⟨B1, 0, none⟩ = some (.string tk) := hx1.1 0 (by omega)
          have t1 : wa'.cell? ⟨B1, 1, none⟩ = some (.string ta) := hx1.1 1 (by omega)
          have t2 := hx2.1 0 (by omega)
          have t3 := hx2.1 1 (by omega)
          have t4 := hx2.2 0
          have t5 := hx2.2 1
          have hB2 : Below wr.heap.size wr ((wa'.setCell ⟨B1 + 1, 0, none⟩ (.string tk)).setCell ⟨B1 + 1, 1, none⟩ (.string ta)) := (hB1.setCell (by have := HB1.out; show _ ≤ B1 + 1; omega) _).setCell (by have := HB1.out; show _ ≤ B1 + 1; omega) _
          have hx3 := (hx1.setOther ⟨B1 + 1, 0, none⟩ (by show B1 ≠ B1 + 1; omega) (.string tk)).setOther ⟨B1 + 1, 1, none⟩ (by show B1 ≠ B1 + 1; omega) (.string ta)
          have hx4 := ((hx2.set 0 (by omega) (.string tk)).set 1 (by omega) (.string ta)).congr (d := peerC tk ta) (fun j hj => by rcases (show j = 0 ∨ j = 1 from by omega) with rfl | rfl <;> rfl)
          go_wp2_with fail
          go_meet
          case rel => exact ⟨by rw [hu1], hx3, hx4, hB2⟩
      case rest =>
        obtain ⟨rfl, hx1', hx2', hBx⟩ := hcut
        clear hB1 hx1 hx2
        obtain ⟨wx, hwx⟩ : ∃ wx, wx = wc := ⟨_, rfl⟩
        rw [← hwx] at hx1' hx2' hBx
        rw [← hwx]
        clear hwx
        have hFx := hF.laterS hBx
        have hLx := hL.later hBx
        have HV0 : Hid (∀ k, u36.ownBlock = some k → k < wr.heap.size) := fun k hk => (hL.v.lt k hk).2
        have hBq : Bq ≤ wr.heap.size := hL.ord.2.2.2.2
        clear hF hL
        go_upto_if 211 with fail
        go_cut [46] from 211 to 214 (fun v wy => v = .int .u64 (bitOf b.k) ∧ wy = wx)
        case first =>
          by_cases h64 : b.k < 64
          · have hd64 : decide ((b.k : Int) < 64) = true := decide_eq_true (by omega)
            have HBT : Hid _ := bit_low h64
            go_wp2_with fail
            go_meet
            case rel => exact ⟨by rw [HBT.out], rfl⟩
          · have hd64 : decide ((b.k : Int) < 64) = false := decide_eq_false (by omega)
            have HBT : Hid _ := bit_high h64
            go_wp2_with fail
            go_meet
            case rel => exact ⟨by rw [HBT.out], rfl⟩
        case rest =>
          obtain ⟨rfl, rfl⟩ := hcut
          have hord2 := hLx.ord
          have hb1l := hx2'.lt (by omega)
          have b1e := HB1.out
          have tc : wc.cell? ⟨T, 1, none⟩ = some (.int .u64 b.t) := hFx.t.1 1 (by omega)
          have t0 := hLx.bt.1 1 (by omega)
          have t0f := hLx.bt.2 1
          have n1 : Ww ≠ Wt := by omega
          have n2 : Wa ≠ Wt := by omega
          have n3 : Wu ≠ Wt := by omega
          have n4 : Wa ≠ Ww := by omega
          have n5 : Wu ≠ Ww := by omega
          have n6 : Wu ≠ Wa := by omega
          have n7 : E ≠ Wt := by omega
          have n8 : S ≠ Wt := by omega
          have n9 : B1 + 1 ≠ Wt := by omega
          have n10 : B1 + 1 ≠ Ww := by omega
          have n11 : B1 + 1 ≠ Wa := by omega
          clear b1e
          have e0 : wc.cell? ⟨E, 1, none⟩ = some (.slice (some ⟨b.g, 0, none⟩) b.n b.n) := hFx.e.1 1 (by omega)
          have p0 : wc.cell? ⟨B1 + 1, 0, none⟩ = some (.string tk) := hx2'.1 0 (by omega)
          have p1 : wc.cell? ⟨B1 + 1, 1, none⟩ = some (.string ta) := hx2'.1 1 (by omega)
          have v0 := hLx.bw.1 1 (by omega)
          have v0f := hLx.bw.2 1
          have y0 := hLx.ba.1 2 (by omega)
          have y0f := hLx.ba.2 2
          have y1 := hLx.ba.1 3 (by omega)
          have y1f := hLx.ba.2 3
          have z0 := hLx.bu.1 1 (by omega)
          have z0f := hLx.bu.2 1
          by_cases htd : toldAt b.t b.k = true
          · have ht : (bits BinOp.and IntKind.u64 b.t (bitOf b.k) != 0) = true := htd
            have HR : Hid (LF w H S N E W T U A gS nS Ww uk ua sk sa f b (((((wc.setCell ⟨Wt, 1, none⟩ (.int .u64 (bits .andNot .u64 b.t (bitOf b.k)))).setCell ⟨Ww, 1, none⟩ (.int .i64 (stepUp b.k b.n))).setCell ⟨Wa, 2, none⟩ (.string tk)).setCell ⟨Wa, 3, none⟩ (.string ta)).setCell ⟨Wu, 1, none⟩ (.int .i64 u0)) ∧
                ∃ ww wa wu wt, LB Ww Wa Wu Wt Bq ww wa wu wt u36 (f.sent b 0 uk ua pk pa ++ b.sent f 1 uk ua ⟨#[]⟩ ⟨#[]⟩) (((((wc.setCell ⟨Wt, 1, none⟩ (.int .u64 (bits .andNot .u64 b.t (bitOf b.k)))).setCell ⟨Ww, 1, none⟩ (.int .i64 (stepUp b.k b.n))).setCell ⟨Wa, 2, none⟩ (.string tk)).setCell ⟨Wa, 3, none⟩ (.string ta)).setCell ⟨Wu, 1, none⟩ (.int .i64 u0)) ∧ Done0 f.step ww wa wu wt ∧ Done1 b.step ww wa wu wt) := by
              have es : f.sent b 0 uk ua pk pa ++ b.sent f 1 uk ua ⟨#[]⟩ ⟨#[]⟩ = LS := by
                have : b.sent f 1 uk ua ⟨#[]⟩ ⟨#[]⟩ = [] := by unfold Tb.sent Tb.told; rw [htd]; rfl
                rw [this, List.append_nil, HLS.out.2]
              have htd2 : b.told = true := htd
              refine ⟨((((hFx.set Wt 1 (by omega) _).set Ww 1 (by omega) _).set Wa 2 (by omega) _).set Wa 3 (by omega) _).set Wu 1 (by omega) _, _, _, _, _, by rw [es]; exact ((((hLx.setT 1 (by omega) _).setW 1 (by omega) _).setA 2 (by omega) _).setA 3 (by omega) _).setU 1 (by omega) _, ?_⟩
              refine ⟨hD0, ?_⟩
              unfold Done1 Tb.step
              rw [htd2, ← HTK.out.1, ← HTK.out.2, ← HU.out]
              exact ⟨rfl, rfl, rfl, rfl, rfl⟩
            clear hFx hLx HUE HV0
            by_cases hs : b.k + 1 < b.n
            · have HSU : Hid (stepUp b.k b.n = b.k + 1) := if_pos hs
              have hd : decide ((b.k : Int) + 1 < (b.n : Int)) = true := decide_eq_true (by omega)
              go_wp2_with fail
              go_roundw
              case measure => simp [intOf]
              case rel => rw [HSU.out] at HR; exact .inr (.inr ⟨rfl, HR.out⟩)
            · have HSU : Hid (stepUp b.k b.n = 0) := if_neg hs
              have hd : decide ((b.k : Int) + 1 < (b.n : Int)) = false := decide_eq_false (by omega)
              go_wp2_with fail
              go_roundw
              case measure => simp [intOf]
              case rel => rw [HSU.out] at HR; exact .inr (.inr ⟨rfl, HR.out⟩)
          · replace htd : toldAt b.t b.k = false := by simpa using htd
            have ht : (bits BinOp.and IntKind.u64 b.t (bitOf b.k) != 0) = false := htd
            have s0 : wc.cell? ⟨S, 0, none⟩ = some (.string uk) := hFx.s.1 0 (by omega)
            have s1 : wc.cell? ⟨S, 1, none⟩ = some (.string ua) := hFx.s.1 1 (by omega)
            have e1 : wc.cell? ⟨E, 0, none⟩ = some (.slice (some ⟨f.g, 0, none⟩) f.n f.n) := hFx.e.1 0 (by omega)
            have hEl : E < wc.heap.size := by omega
            obtain ⟨hun0, hun3⟩ := hun
            have hwr1 : IntKind.i64.wrap ((b.k : Int) - 1) = (b.k : Int) - 1 := IntWalk.i64_in _ ⟨by omega, by omega⟩
            go_wp2_with fail
            have hM2 : (wc.setCell ⟨Wt, 1, none⟩ (.int .u64 (bits .andNot .u64 b.t (bitOf b.k)))).heap.size = wc.heap.size := by simp
            have hm := msg_fresh (wc.setCell ⟨Wt, 1, none⟩ (.int .u64 (bits .andNot .u64 b.t (bitOf b.k)))) (askS 1 b.k uk ua) 72
            have hFy := hFx.set Wt 1 (by omega) (.int .u64 (bits .andNot .u64 b.t (bitOf b.k)))
            have hLy := hLx.setT 1 (by omega) (.int .u64 (bits .andNot .u64 b.t (bitOf b.k)))
            have hy1 := hx1'.setOther ⟨Wt, 1, none⟩ (by have := HB1.out; show B1 ≠ Wt; omega) (.int .u64 (bits .andNot .u64 b.t (bitOf b.k)))
            have hy2 := hx2'.setOther ⟨Wt, 1, none⟩ n9 (.int .u64 (bits .andNot .u64 b.t (bitOf b.k)))
            rw [hM2] at hm
            obtain ⟨M, hM⟩ : ∃ M, M = wc.heap.size := ⟨_, rfl⟩
            rw [← hM] at hm hM2
            rw [← hM]
            have hMB1 : B1 + 1 < M := by omega
            clear tc t0 t0f e0 p0 p1 v0 v0f y0 y0f y1 y1f z0 z0f s0 s1 e1 hEl hFx hLx hx1' hx2' hM hb1l
            generalize World.setCell wc _ _ = wy at hm hM2 hFy hLy hy1 hy2 ⊢
            have hB0 : Below wy.heap.size wy (wy.alloc (.cells (mA (askS 1 b.k uk ua)) 72)) := (Below.refl _ _).alloc (Nat.le_refl _) _
            have hMl : M < (wy.alloc (.cells (mA (askS 1 b.k uk ua)) 72)).heap.size := by simp; omega
            have hMb : MB w H S N E W T U A gS nS Ww Wa Wu Wt Bq B1 M uk ua tk ta sk sa f b ww wa wu (upd wt 1 (.int .u64 (bits .andNot .u64 b.t (bitOf b.k)))) u36 LS (askS 1 b.k uk ua) (wy.alloc (.cells (mA (askS 1 b.k uk ua)) 72)) :=
              ⟨hFy.laterS hB0, hLy.later hB0, hy1.below hB0 (by omega), hy2.below hB0 (by omega), hm, fun k hk => by rw [HB1.out]; exact HV0.out k hk, ⟨by rw [HB1.out]; exact hBq, hMB1, hMl⟩⟩
            clear hm hFy hLy hy1 hy2 hB0 hMl hM2
            generalize World.alloc wy _ = wf at hMb ⊢
            have hMf := hMb
            clear hMb
            have hq := hMf.f.ord
            have ho := hMf.o
            refine (at_any f.g f.n f.n f.kf f.af b.k wf (by omega) hMf.f.rf).mono ?_
            rintro e wg ⟨rfl, hBg⟩
            have hMg := hMf.later hBg
            clear hMf hBg hq ho
            have m14 := hMg.m.1 14 (by omega)
            have m15 := hMg.m.1 15 (by omega)
            have k14 := hMg.m.2 14
            have k15 := hMg.m.2 15
            go_wp2_with fail
            have hMh := (hMg.set 14 (by omega) (.string (atP f.n f.kf b.k))).set 15 (by omega) (.string (atP f.n f.af b.k))
            clear hMg m14 m15 k14 k15
            generalize World.setCell (World.setCell wg _ _) _ _ = wh at hMh ⊢
            have hq := hMh.f.ord
            have ho := hMh.o
            refine (at_any f.g f.n f.n f.kf f.af ((b.k : Int) - 1) wh (by omega) hMh.f.rf).mono ?_
            rintro e wi ⟨rfl, hBi⟩
            have hMi := hMh.later hBi
            clear hMh hBi hq ho
            have m16 := hMi.m.1 16 (by omega)
            have k16 := hMi.m.2 16
            have hMj := (hMi.set 16 (by omega) (.string (atP f.n f.kf ((b.k : Int) - 1)))).congr (ask_eqBS b.k (atP f.n f.kf b.k) (atP f.n f.af b.k) (atP f.n f.kf ((b.k : Int) - 1)) uk ua)
            go_upto_region 63 with fail
            have HS1 : Hid _ := ask_oneS 1 b.k ⟨#[]⟩ ⟨#[]⟩ (atP f.n f.kf b.k) (atP f.n f.af b.k) (atP f.n f.kf ((b.k : Int) - 1)) tk ta uk ua
            have HSN : Hid (f.sent b 0 uk ua pk pa ++ b.sent f 1 uk ua ⟨#[]⟩ ⟨#[]⟩ = LS ++ [sL tk ta (upd (upd (askC 1 ⟨#[]⟩ ⟨#[]⟩ (atP f.n f.kf b.k) (atP f.n f.af b.k) (atP f.n f.kf ((b.k : Int) - 1)) b.k) 4 (.string uk)) 5 (.string ua))]) := by
              have htd2 : b.told = false := htd
              rw [HLS.out.2]; congr 1; unfold Tb.sent; rw [htd2, HTK.out.1, HTK.out.2]; rfl
            clear hMi m16 k16
            generalize World.setCell wi _ _ = wj at hMj ⊢
            generalize upd (upd (askC 1 ⟨#[]⟩ ⟨#[]⟩ (atP f.n f.kf b.k) (atP f.n f.af b.k) (atP f.n f.kf ((b.k : Int) - 1)) b.k) 4 (.string uk)) 5 (.string ua) = cm at hMj HS1 HSN
            have p0 : wj.cell? ⟨B1, 0, none⟩ = some (.string tk) := hMj.x1.1 0 (by omega)
            have p1 : wj.cell? ⟨B1, 1, none⟩ = some (.string ta) := hMj.x1.1 1 (by omega)
            have hrow := msg_rowL hMj.m
            have hbq := hMj.l.ord
            have hoj := hMj.o
            obtain ⟨i0, hi, hz0, hz1, hz2⟩ := info_parts Ybaz.infoSentZ
            go_wp2_with (first
              | (at_builtin; refine wpList_append_lies _ rfl _ _ 25 rfl Bq 76 i0 _ 25 304 Ybaz.underlying25 hi hz0 hz1 hz2 rfl (by decide) u36 LS.length LS.flatten rfl (hMj.l.v.alloc _) ⟨wj.heap.size, 0, none⟩ 1 1 (sL tk ta cm) rfl rfl (World.news_of_block (cs := sA tk ta cm) (t := 76) (fr := (0, 0)) (heap_alloc_new wj _)) HS1.out (by omega) (by unfold maxLen; omega) (by omega) (by simp; omega) (wj.heap.size + 1) (by simp) ?_)
              | go_in)
            intro g cap w4 hown hgrow hgb hgl
            obtain ⟨hL4, hB4, hkeep⟩ := hMj.l.app hown hgrow
            have hF4 := hMj.f.later (hB4.mono (by omega))
            have hx4 := hkeep _ _ _ hMj.x2 (by omega) (fun e => by have := hMj.q _ e; omega)
            clear hown hgrow hgb hgl hkeep hMj p0 p1 hrow hi hz0 hz1 hz2
            rw [← HSN.out] at hL4
            have p0 : w4.cell? ⟨B1 + 1, 0, none⟩ = some (.string tk) := hx4.1 0 (by omega)
            have p1 : w4.cell? ⟨B1 + 1, 1, none⟩ = some (.string ta) := hx4.1 1 (by omega)
            have v0 := hL4.bw.1 1 (by omega)
            have v0f := hL4.bw.2 1
            have y0 := hL4.ba.1 2 (by omega)
            have y0f := hL4.ba.2 2
            have y1 := hL4.ba.1 3 (by omega)
            have y1f := hL4.ba.2 3
            have z0 := hL4.bu.1 1 (by omega)
            have z0f := hL4.bu.2 1
            have HR : Hid (LF w H S N E W T U A gS nS Ww uk ua sk sa f b ((((w4.setCell ⟨Ww, 1, none⟩ (.int .i64 b.k)).setCell ⟨Wa, 2, none⟩ (.string tk)).setCell ⟨Wa, 3, none⟩ (.string ta)).setCell ⟨Wu, 1, none⟩ (.int .i64 (u0 + 1))) ∧
                ∃ ww wa wu wt, LB Ww Wa Wu Wt Bq ww wa wu wt (.slice (some ⟨g, 0, none⟩) (LS.length + 1) cap) (f.sent b 0 uk ua pk pa ++ b.sent f 1 uk ua ⟨#[]⟩ ⟨#[]⟩) ((((w4.setCell ⟨Ww, 1, none⟩ (.int .i64 b.k)).setCell ⟨Wa, 2, none⟩ (.string tk)).setCell ⟨Wa, 3, none⟩ (.string ta)).setCell ⟨Wu, 1, none⟩ (.int .i64 (u0 + 1))) ∧ Done0 f.step ww wa wu wt ∧ Done1 b.step ww wa wu wt) := by
              have htd2 : b.told = false := htd
              refine ⟨(((hF4.set Ww 1 (by omega) _).set Wa 2 (by omega) _).set Wa 3 (by omega) _).set Wu 1 (by omega) _, _, _, _, _, (((hL4.setW 1 (by omega) _).setA 2 (by omega) _).setA 3 (by omega) _).setU 1 (by omega) _, ?_⟩
              refine ⟨hD0, ?_⟩
              unfold Done1 Tb.step
              rw [htd2, ← HTK.out.1, ← HTK.out.2, ← HU.out]
              exact ⟨rfl, rfl, rfl, rfl, rfl⟩
            clear hF4 hL4 hx4
            go_wp2_with fail
            go_roundw
            case measure => simp [intOf]
            case rel => exact .inr (.inr ⟨rfl, HR.out⟩)
    · go_upto_region 67 with fail
      go_cut [] from 292 to 293 (fun wx => EndSt w H N Ww Wa Wu Wt f.step b.step u36 (f.sent b 0 uk ua pk pa ++ b.sent f 1 uk ua ⟨#[]⟩ ⟨#[]⟩) (f.noted ++ b.noted) wx)
      case first =>
        have hord := hF.ord
        obtain ⟨c, n1, n2, n3, n4, n5⟩ := hF.n
        have HPOST : Hid (∀ w', Ticked N H wr.heap.size uk ua pk pa f b wr w' → EndSt w H N Ww Wa Wu Wt f.step b.step u36 (f.sent b 0 uk ua pk pa ++ b.sent f 1 uk ua ⟨#[]⟩ ⟨#[]⟩) (f.noted ++ b.noted) w') := fun w' hT => end_of hF hL hD0 hD1 hT
        have HRF : Hid _ := hF.rf
        have HRB : Hid _ := hF.rb
        have HRS : Hid _ := hF.rs
        have HH : Hid _ := host_none hF.h
        clear hF hL hD0 hD1
        go_wp2_with fail
        refine (tick_any N H wr.heap.size gS nS nS c uk ua pk pa sk sa f b wr n1 (by omega) n2 n3 n4 n5 HRF.out HRB.out HRS.out HH.out (by omega) (by omega) hfk hbk' hfn hbn hsn huF.2 huB.2 huF.1 huB.1 HPK.out.1 HPK.out.2).mono ?_
        rintro e wt' ⟨rfl, hT⟩
        have HT : Hid _ := HPOST.out _ hT
        clear hT
        go_wp2_with fail
        go_meet
        case rel => exact HT.out
      case rest =>
        have HC : Hid _ := hcut
        clear hcut hF hL hD0 hD1
        rename_i hK
        exact hK _ _ (step_tail w H N Ww Wa Wu Wt f.step b.step u36 _ _ wc HC.out _ _ _ _ _ _ _ _ _ _ _ _ _ _ _ _ _ _ _ _ _ _ _ _ _ _ _ _ _ _ _ _ _ _ _ _ _ _ _ _ _ _ _ _ _ _ _ _ _ _ _ _ _ _ _ _ _ _ _ _ _ _ _ _ _ _ _ _ _ _ _ _ _ _ _ _ _ _ _ _ _ _ _ _ _ _ _ _ _ _ _ _ _ _ _ _ _ _ _ _ _ _ _ _ _ _ _ _ _ _ _ _ _ _ _ _ _ _ _ _ _ _ _ _ _ _ _ _ _ _ _ _ _ _ _ _ _ _ _ _ _ _ _ _ _ _ _ _ _ _ _ _ _ _ _ _ _ _ _ _ _ _ _ _ _ _ _ _ _ _ _ _ _ _ _ _ _ _ _ _ _ _ _ _ _ _ _ _ _ _ _ _ _ _ _ _ _ _ _ _ _ _ _ _ _ _ _ _ _ _ _ _ _ _ _ _ _ _ _ _ _ _ _ _ _ _ _ _ _ _ _ _ _ _ _ _ _ _ _ _ _ _ _ _ _ _ _ _ _ _ _ _ _ _ _ _ _ _ _ _ _ _ _ _ _ _ _ _ _ _ _ _ _ _ _ _ _ _ _ _ _)

end Go.Proofs.YbulkbpcaGreat
