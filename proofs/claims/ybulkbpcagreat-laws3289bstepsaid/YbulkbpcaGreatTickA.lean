import Derived.Test.YbulkbpcaGreatTickE
import Derived.Laws.IdiomRangeMap
namespace Go.Proofs.YbulkbpcaGreat
open Go.ChangeShapes Go.WideShapes Go.ChangeAt Go.RowKit
set_option linter.unusedVariables false
attribute [local go_sem ↓] eq_peer
attribute [local go_sem] guard_peer field_key msg_cells rowL_drew rowL_drewN rowL_alloc rowL_setCell load_msg store_askL
attribute [local go_sem ↓] load_msg0 store_msg0

set_option maxRecDepth 100000 in
set_option maxHeartbeats 2000000 in
theorem tick_any (N H G gS nS capS : Nat) (c : Nat → Value) (uk ua pk pa : ByteArray) (sk sa : Nat → ByteArray) (f b : Tb) (w : World) (hb : Blk w N 258 c) (hN : N < w.heap.size) (hp : TickPre c H uk ua 0) (hf : f.At c 21) (hbk : b.At c 32) (h9 : c 9 = .slice (some ⟨gS, 0, none⟩) nS capS)
    (rf : Rgs w f.g f.n f.kf f.af) (rb : Rgs w b.g b.n b.kf b.af) (rs : Prs w gS nS sk sa) (hh : HostSt w H G (.slice none 0 0) [] []) (hlt : N < G ∧ f.g < G ∧ b.g < G ∧ gS < G ∧ G ≤ w.heap.size) (hne : N ≠ H ∧ f.g ≠ H ∧ b.g ≠ H ∧ gS ≠ H ∧ f.g ≠ N ∧ b.g ≠ N ∧ gS ≠ N)
    (hfk : f.k < f.n) (hbk' : b.k < b.n) (hfn : f.n ≤ 1024) (hbn : b.n ≤ 1024) (hsn : nS ≤ 1024) (huF : f.u < 3) (huB : b.u < 3) (huF0 : 0 ≤ f.u) (huB0 : 0 ≤ b.u)
    (hpk : pk = pick3 f.n b.n f.kf b.kf sk (passIx (nS + f.n + b.n))) (hpa : pa = pick3 f.n b.n f.af b.af sa (passIx (nS + f.n + b.n))) :
    Calls Ybaz.prog 10 #[.pointer (some ⟨N, 0, none⟩)] w fun e w' => e = .returned (.tuple #[]) ∧ Ticked N H G uk ua pk pa f b w w' := by
  have HPK : Hid (pk = _ ∧ pa = _) := ⟨hpk, hpa⟩
  clear hpk hpa
  have HUL : Hid (f.u < 3 ∧ b.u < 3) := ⟨huF, huB⟩
  obtain ⟨uF, huFe⟩ : ∃ uF, uF = f.u := ⟨_, rfl⟩
  obtain ⟨uB, huBe⟩ : ∃ uB, uB = b.u := ⟨_, rfl⟩
  have h27 : c 27 = .int .i64 uF := by rw [huFe]; exact hf.u
  have h38 : c 38 = .int .i64 uB := by rw [huBe]; exact hbk.u
  rw [← huFe] at huF
  rw [← huBe] at huB
  clear huFe huBe
  have c3 : w.cell? ⟨N, 3, none⟩ = some (.bool false) := (hb.1 3 (by omega)).trans (by rw [hp.h3])
  have c14 : w.cell? ⟨N, 14, none⟩ = some (.int .i64 0) := (hb.1 14 (by omega)).trans (by rw [hp.h14])
  have f14 := hb.2 14
  have c8 : w.cell? ⟨N, 8, none⟩ = some (.map none) := (hb.1 8 (by omega)).trans (by rw [hp.h8])
  have hrg : Sem.run Ybaz.prog (Instr.range 46 (.map none)) (w.setCell ⟨N, 14, none⟩ (.int .i64 1)) = .ok (.pointer (some ⟨w.heap.size, 0, none⟩)) ((w.setCell ⟨N, 14, none⟩ (.int .i64 1)).alloc (.mapIter none 0 #[] 0)) := by
    have := run_range_nilMap (P := Ybaz.prog) (w.setCell ⟨N, 14, none⟩ (.int .i64 1)) 46 _ _ Ybaz.underlying46
    simpa using this
  have hnx : ∀ ty, (Instr.next (.pointer (some ⟨w.heap.size, 0, none⟩)) false ty).run Ybaz.prog ((w.setCell ⟨N, 14, none⟩ (.int .i64 1)).alloc (.mapIter none 0 #[] 0)) = .ok (.tuple #[.bool false]) ((w.setCell ⟨N, 14, none⟩ (.int .i64 1)).alloc (.mapIter none 0 #[] 0)) := fun ty => by
    have := run_next_nilMap (P := Ybaz.prog) (w.setCell ⟨N, 14, none⟩ (.int .i64 1)) ty 0 0 #[]
    simpa using this
  go_enter Ybaz.func10, Ybaz.ntmps10
  go_wp2_with fail
  refine wp_loop_rounds 1 ?_
  rw [rounds_succ]
  go_wp2_with fail
  have hb1 := (hb.set 14 (by omega) (.int .i64 1)).alloc (by simpa using hN) (.mapIter none 0 #[] 0)
  have hK1 : Kp (fun j => j = N) w ((w.setCell ⟨N, 14, none⟩ (.int .i64 1)).alloc (.mapIter none 0 #[] 0)) := ((Kp.refl (fun j => j = N) w).setCell (p := ⟨N, 14, none⟩) (fun _ => rfl) _).alloc _
  have hN1 : N < ((w.setCell ⟨N, 14, none⟩ (.int .i64 1)).alloc (.mapIter none 0 #[] 0)).heap.size := by simp; omega
  refine (expire_none N _ hN1 ((hb1.1 13 (by omega)).trans (by simp [upd, hp.h13])) (hb1.2 13)).mono ?_
  rintro e w1 ⟨rfl, hw1⟩
  have hb2 := hb1.set 13 (by omega) (.slice none 0 0)
  rw [← hw1] at hb2
  have hK2 : Kp (fun j => j = N) w w1 := by rw [hw1]; exact hK1.setCell (p := ⟨N, 13, none⟩) (fun _ => rfl) _
  have hN2 : N < w1.heap.size := Nat.lt_of_lt_of_le hN hK2.size
  clear hw1 hb1 hK1 hN1 hrg hnx c3 c14 f14 c8
  have d27 : w1.cell? ⟨N, 27, none⟩ = some (.int .i64 uF) := (hb2.1 27 (by omega)).trans (by simp [upd, h27])
  have d38 : w1.cell? ⟨N, 38, none⟩ = some (.int .i64 uB) := (hb2.1 38 (by omega)).trans (by simp [upd, h38])
  go_wp2_with fail
  refine wp_loop_rounds 3 ?_
  rw [rounds_succ]
  go_wp2_with fail
  rw [rounds_succ]
  go_wp2_with fail
  rw [rounds_succ]
  go_wp2_with fail
  refine (sendMerges_none N w1 ((hb2.1 19 (by omega)).trans (by simp [upd, hp.h19])) ((hb2.1 20 (by omega)).trans (by simp [upd, hp.h20]))).mono ?_
  rintro e w2 ⟨rfl, q, hw2⟩
  have hb3 := hb2.drewN q
  rw [← hw2] at hb3
  have hK3 : Kp (fun j => j = N) w w2 := by rw [hw2]; exact hK2.drewN q
  clear hw2 hb2 hK2 d27 d38
  have hI0 : TI N H G gS nS capS uk ua sk sa f b [] [] w (upd (upd c 14 (.int .i64 1)) 13 (.slice none 0 0)) w2 := by
    obtain ⟨l1, l2, l3, l4, l5⟩ := hlt
    obtain ⟨n1, n2, n3, n4, n5, n6, n7⟩ := hne
    exact ⟨hb3, ⟨hp.h0, hp.h1, hp.h2, hp.h3, hp.h7, hp.h8, rfl, rfl, hp.h15, hp.h16, hp.h17, hp.h18, hp.h19, hp.h20, hp.h58⟩, ⟨hf.e, hf.w, hf.qk, hf.qa, hf.u, hf.t⟩, ⟨hbk.e, hbk.w, hbk.qk, hbk.qa, hbk.u, hbk.t⟩, h9,
      rf.block (hK3.block _ (by omega) n5), rb.block (hK3.block _ (by omega) n6), rs.block (hK3.block _ (by omega) n7), hh.kept hK3 (fun k hk => by subst hk; exact ⟨l1, n1⟩), hK3.mono (fun k h => .inl h), ⟨l1, l2, l3, l4, Nat.le_trans l5 hK3.size⟩, ⟨n1, n2, n3, n4, n5, n6, n7⟩⟩
  clear hb3 hK3
  go_wp2_with fail
  go_loopw [71] (fun i wr => (i = .int .i64 0 ∧ ∃ c, TI N H G gS nS capS uk ua sk sa f b [] [] w c wr) ∨ (i = .int .i64 1 ∧ ∃ c, TI N H G gS nS capS uk ua sk sa f.step b (f.sent b 0 uk ua pk pa) f.noted w c wr) ∨ (i = .int .i64 2 ∧ ∃ c, TI N H G gS nS capS uk ua sk sa f.step b.step (f.sent b 0 uk ua pk pa ++ b.sent f 1 uk ua ⟨#[]⟩ ⟨#[]⟩) (f.noted ++ b.noted) w c wr)) (fun i _ => 2 - (intOf i).toNat)
  case atStart => exact .inl ⟨rfl, _, hI0⟩
  case round =>
    rcases hrel with ⟨rfl, cr, hI⟩ | ⟨rfl, cr, hI⟩ | ⟨rfl, cr, hI⟩
    · obtain ⟨tk, htk⟩ : ∃ tk, tk = f.kf f.k := ⟨_, rfl⟩
      obtain ⟨ta, hta⟩ : ∃ ta, ta = f.af f.k := ⟨_, rfl⟩
      have e21 : wr.cell? ⟨N, 21, none⟩ = some (.slice (some ⟨f.g, 0, none⟩) f.n f.n) := (hI.n.1 21 (by omega)).trans (by rw [hI.tf.e])
      have e24 : wr.cell? ⟨N, 24, none⟩ = some (.int .i64 f.k) := (hI.n.1 24 (by omega)).trans (by rw [hI.tf.w])
      have r0 : wr.cell? ⟨f.g, f.k * 3, none⟩ = some (.string tk) := by rw [htk]; exact (hI.rf f.k hfk).1
      have r1 : wr.cell? ⟨f.g, f.k * 3 + 1, none⟩ = some (.string ta) := by rw [hta]; exact (hI.rf f.k hfk).2
      have HTK : Hid (tk = f.kf f.k ∧ ta = f.af f.k) := ⟨htk, hta⟩
      clear htk hta
      have hNr : N < wr.heap.size := by have := hI.lt; omega
      have hgr : f.g < wr.heap.size := by have := hI.lt; omega
      have hk0 : (0 : Int) ≤ (f.k : Int) := by omega
      have hk7 : (f.k : Int) < (f.n : Int) := by omega
      go_wp2_with fail
      go_region
      have hbx := (peer_fresh wr tk ta 30).drew
      have hBx : Below wr.heap.size wr (wr.alloc (.cells #[.string tk, .string ta] 30)).drew := ((Below.refl _ wr).alloc (Nat.le_refl _) _).drew
      have hIa := hI.later hBx
      have hPl : wr.heap.size < (wr.alloc (.cells #[.string tk, .string ta] 30)).drew.heap.size := by simp
      obtain ⟨P, hP⟩ : ∃ P, P = wr.heap.size := ⟨_, rfl⟩
      rw [← hP] at hbx hPl ⊢
      have hPG : G ≤ P := by rw [hP]; exact hI.lt.2.2.2.2
      generalize World.drew _ = wa at hbx hIa hPl hBx ⊢
      clear hP hI e21 e24 r0 r1 hNr hgr hBx
      have b0 : wa.cell? ⟨P, 0, none⟩ = some (.string tk) := hbx.1 0 (by omega)
      have b1 : wa.cell? ⟨P, 1, none⟩ = some (.string ta) := hbx.1 1 (by omega)
      have a25 : wa.cell? ⟨N, 25, none⟩ = some (.string f.qk) := (hIa.n.1 25 (by omega)).trans (by rw [hIa.tf.qk])
      have a26 : wa.cell? ⟨N, 26, none⟩ = some (.string f.qa) := (hIa.n.1 26 (by omega)).trans (by rw [hIa.tf.qa])
      go_wp2_with fail
      obtain ⟨u0, hu0⟩ : ∃ u0, u0 = f.u0 := ⟨_, rfl⟩
      have hue : f.u0 = if peq tk ta f.qk f.qa then f.u else 0 := by rw [HTK.out.1, HTK.out.2]; rfl
      have hun : 0 ≤ u0 ∧ u0 < 3 := by have := HUL.out; rw [hu0, hue]; split <;> omega
      have HU : Hid (u0 = f.u0) := hu0
      have HUE : Hid _ := hue
      clear hu0 hue
      go_quiet (fail)
      go_upto_if 95 with fail
      go_cut [] from 95 to 102 (fun wx => (∃ cx, TI N H G gS nS capS uk ua sk sa { f with qk := tk, qa := ta, u := u0 } b [] [] w cx wx) ∧ Blk wx P 2 (peerC tk ta))
      case first =>
        by_cases hpq : peq tk ta f.qk f.qa = true
        · have hnq : (!peq tk ta f.qk f.qa) = false := by rw [hpq]; rfl
          rw [hnq]
          go_wp2_with fail
          have hq := (peq_iff _ _ _ _).1 hpq
          have hIb : TI N H G gS nS capS uk ua sk sa { f with qk := tk, qa := ta, u := u0 } b [] [] w cr (wa.drewN nq) := by
            have e : ({ f with qk := tk, qa := ta, u := u0 } : Tb) = f := by rw [HU.out, HUE.out, if_pos hpq, hq.1, hq.2]
            rw [e]; exact hIa.drewN nq
          go_meet
          case rel => exact ⟨⟨_, hIb⟩, hbx.drewN nq⟩
        · replace hpq : peq tk ta f.qk f.qa = false := by simpa using hpq
          have hnq : (!peq tk ta f.qk f.qa) = true := by rw [hpq]; rfl
          rw [hnq]
          have g25 := hIa.n.2 25
          have g26 := hIa.n.2 26
          have g27 := hIa.n.2 27
          have a27 : (wa.cell? ⟨N, 27, none⟩) = some (.int .i64 f.u) := (hIa.n.1 27 (by omega)).trans (by rw [hIa.tf.u])
          go_wp2_with fail
          have hu00 : u0 = 0 := by rw [HU.out, HUE.out, hpq]; rfl
          have hI1 := (hIa.drewN nq).setF 25 (by omega) (.string tk) { f with qk := tk } ⟨hIa.tf.e, hIa.tf.w, rfl, hIa.tf.qa, hIa.tf.u, hIa.tf.t⟩ ⟨rfl, rfl, rfl, rfl⟩
          have hI2 := hI1.setF 26 (by omega) (.string ta) { f with qk := tk, qa := ta } ⟨hIa.tf.e, hIa.tf.w, rfl, rfl, hIa.tf.u, hIa.tf.t⟩ ⟨rfl, rfl, rfl, rfl⟩
          have hIb := hI2.setF 27 (by omega) (.int .i64 0) { f with qk := tk, qa := ta, u := u0 } ⟨hIa.tf.e, hIa.tf.w, rfl, rfl, by rw [hu00]; rfl, hIa.tf.t⟩ ⟨rfl, rfl, rfl, rfl⟩
          have hPN : P ≠ N := by have := hIa.lt; omega
          have hbx2 := (((hbx.drewN nq).setOther ⟨N, 25, none⟩ hPN (.string tk)).setOther ⟨N, 26, none⟩ hPN (.string ta)).setOther ⟨N, 27, none⟩ hPN (.int .i64 0)
          go_meet
          case rel => exact ⟨⟨_, hIb⟩, hbx2⟩
      case rest =>
        obtain ⟨⟨cb, hIb⟩, hbx2⟩ := hcut
        have hPl2 := hbx2.lt (by omega)
        obtain ⟨wb, hwb⟩ : ∃ wb, wb = wc := ⟨_, rfl⟩
        rw [← hwb] at hIb hbx2 hPl2
        rw [← hwb]
        clear hwb hIa hbx hPl b0 b1 a25 a26
        go_wp2_with fail
        by_cases htd : toldAt f.t f.k = true
        · refine (spared_yes N 21 f.g f.n f.n f.k f.t wb hfk hfn ((hIb.n.1 21 (by omega)).trans (by rw [hIb.tf.e])) ((hIb.n.1 24 (by omega)).trans (by rw [hIb.tf.w])) (hIb.n.2 24) ((hIb.n.1 28 (by omega)).trans (by rw [hIb.tf.t])) (hIb.n.2 28) htd).mono ?_
          rintro e wc ⟨rfl, q2, hwc⟩
          have hI1 := (hIb.setF 28 (by omega) (.int .u64 (bits .andNot .u64 f.t (bitOf f.k))) { f with qk := tk, qa := ta, u := u0, t := bits .andNot .u64 f.t (bitOf f.k) } ⟨hIb.tf.e, hIb.tf.w, hIb.tf.qk, hIb.tf.qa, hIb.tf.u, rfl⟩ ⟨rfl, rfl, rfl, rfl⟩).drewN q2
          have hI2 := hI1.setF 24 (by omega) (.int .i64 (stepUp f.k f.n)) { f with qk := tk, qa := ta, u := u0, t := bits .andNot .u64 f.t (bitOf f.k), k := stepUp f.k f.n } ⟨hI1.tf.e, rfl, hI1.tf.qk, hI1.tf.qa, hI1.tf.u, hI1.tf.t⟩ ⟨rfl, rfl, rfl, rfl⟩
          rw [← hwc] at hI2
          have htd2 : f.told = true := htd
          have es : ({ f with qk := tk, qa := ta, u := u0, t := bits .andNot .u64 f.t (bitOf f.k), k := stepUp f.k f.n } : Tb) = f.step := by
            unfold Tb.step; rw [htd2, HU.out, HTK.out.1, HTK.out.2]; rfl
          rw [es] at hI2
          have HR : Hid _ := hI2
          clear hI1 hI2 hIb hwc hbx2 hPl2 es htd2
          go_wp2_with fail
          go_roundw
          case measure => simp [intOf]
          case rel => exact .inr (.inl ⟨rfl, _, by unfold Tb.sent Tb.noted Tb.told; rw [htd]; exact HR.out⟩)
        · replace htd : toldAt f.t f.k = false := by simpa using htd
          refine (spared_no N 21 f.k f.t wb ((hIb.n.1 24 (by omega)).trans (by rw [hIb.tf.w])) ((hIb.n.1 28 (by omega)).trans (by rw [hIb.tf.t])) (hIb.n.2 28) htd).mono ?_
          rintro e wc ⟨rfl, hwc⟩
          have hI1 := hIb.setF 28 (by omega) (.int .u64 (bits .andNot .u64 f.t (bitOf f.k))) { f with qk := tk, qa := ta, u := u0, t := bits .andNot .u64 f.t (bitOf f.k) } ⟨hIb.tf.e, hIb.tf.w, hIb.tf.qk, hIb.tf.qa, hIb.tf.u, rfl⟩ ⟨rfl, rfl, rfl, rfl⟩
          have hPN : P ≠ N := by have := hIb.lt; omega
          have hbx3 := hbx2.setOther ⟨N, 28, none⟩ hPN (.int .u64 (bits .andNot .u64 f.t (bitOf f.k)))
          have hPl3 : P < (wb.setCell ⟨N, 28, none⟩ (.int .u64 (bits .andNot .u64 f.t (bitOf f.k)))).heap.size := by simpa using hPl2
          rw [← hwc] at hI1 hbx3 hPl3
          clear hIb hbx2 hPl2 hwc
          have u27 : wc.cell? ⟨N, 27, none⟩ = some (.int .i64 u0) := (hI1.n.1 27 (by omega)).trans (by rw [hI1.tf.u])
          have g27 := hI1.n.2 27
          have k24 : wc.cell? ⟨N, 24, none⟩ = some (.int .i64 f.k) := (hI1.n.1 24 (by omega)).trans (by rw [hI1.tf.w])
          obtain ⟨hun0, hun3⟩ := hun
          have hwr1 : IntKind.i64.wrap ((f.k : Int) - 1) = (f.k : Int) - 1 := IntWalk.i64_in _ ⟨by omega, by omega⟩
          have hm := msg_fresh (wc.setCell ⟨N, 27, none⟩ (.int .i64 (u0 + 1))) (ask0 0 f.k) 72
          have hM2 : (wc.setCell ⟨N, 27, none⟩ (.int .i64 (u0 + 1))).heap.size = wc.heap.size := by simp
          rw [hM2] at hm
          have m1 : ((wc.setCell ⟨N, 27, none⟩ (.int .i64 (u0 + 1))).alloc (.cells (mA (ask0 0 f.k)) 72)).cell? ⟨wc.heap.size, 1, none⟩ = some (.int .u8 0) := hm.1 1 (by omega)
          go_wp2_with fail
          have hI2 := hI1.setF 27 (by omega) (.int .i64 (u0 + 1)) { f with qk := tk, qa := ta, u := u0 + 1, t := bits .andNot .u64 f.t (bitOf f.k) } ⟨hI1.tf.e, hI1.tf.w, hI1.tf.qk, hI1.tf.qa, rfl, hI1.tf.t⟩ ⟨rfl, rfl, rfl, rfl⟩
          have htd2 : f.told = false := htd
          have es : ({ f with qk := tk, qa := ta, u := u0 + 1, t := bits .andNot .u64 f.t (bitOf f.k) } : Tb) = f.step := by
            unfold Tb.step; rw [htd2, HU.out, HTK.out.1, HTK.out.2]; rfl
          rw [es] at hI2
          have hbx4 := hbx3.setOther ⟨N, 27, none⟩ hPN (.int .i64 (u0 + 1))
          have hPl4 : P < (wc.setCell ⟨N, 27, none⟩ (.int .i64 (u0 + 1))).heap.size := by simpa using hPl3
          clear m1
          obtain ⟨M, hM⟩ : ∃ M, M = wc.heap.size := ⟨_, rfl⟩
          rw [← hM] at hm
          rw [← hM] at hM2
          rw [← hM]
          clear hI1 hbx3 hPl3 u27 g27 k24 hM es htd2
          generalize World.setCell wc _ _ = wd at hI2 hbx4 hPl4 hm hM2 ⊢
          generalize upd _ 27 _ = cd at hI2 ⊢
          have hBm : Below M wd (wd.alloc (.cells (mA (ask0 0 f.k)) 72)) := (Below.refl _ _).alloc (by omega) _
          have hMl : M < (wd.alloc (.cells (mA (ask0 0 f.k)) 72)).heap.size := by simp; omega
          generalize World.alloc wd _ = we at hm hBm hMl ⊢
          rw [hM2] at hPl4
          have hIe := hI2.later (hM2 ▸ hBm)
          have hMG : G ≤ M := by have := hI2.lt; omega
          have hMN : M ≠ N := by have := hI2.lt; omega
          have hbx5 := hbx4.below hBm (by omega)
          refine (passOn_any N f.g b.g gS f.n b.n nS f.n b.n capS f.kf f.af b.kf b.af sk sa we (by have := hIe.lt; omega) (by have := hIe.lt; have : f.step.g = f.g := rfl; omega) (by have := hIe.lt; omega) (by have := hIe.lt; omega) hfn hbn hsn (by omega) ((hIe.n.1 9 (by omega)).trans (by rw [hIe.s])) ((hIe.n.1 14 (by omega)).trans (by rw [hIe.p.h14])) ((hIe.n.1 21 (by omega)).trans (by rw [hIe.tf.e]; rfl)) ((hIe.n.1 32 (by omega)).trans (by rw [hIe.tb.e])) hIe.rf hIe.rb hIe.rs).mono ?_
          rintro e wf ⟨rfl, hBf⟩
          rw [← HPK.out.1, ← HPK.out.2]
          have hm2 := hm.below hBf hMl
          have hbx6 := hbx5.below hBf (by omega)
          have hBm2 : Below M wd wf := hBm.trans (hBf.mono (by omega))
          clear hm hBm hIe hbx5 hBf hMl hbx4
          have m6 := hm2.1 6 (by omega)
          have m7 := hm2.1 7 (by omega)
          have n6 := hm2.2 6
          have n7 := hm2.2 7
          go_wp2_with fail
          have hm3 := (hm2.set 6 (by omega) (.string pk)).set 7 (by omega) (.string pa)
          have hPM : P ≠ M := by omega
          have hbx7 := (hbx6.setOther ⟨M, 6, none⟩ hPM (.string pk)).setOther ⟨M, 7, none⟩ hPM (.string pa)
          have hBm3 : Below M wd ((wf.setCell ⟨M, 6, none⟩ (.string pk)).setCell ⟨M, 7, none⟩ (.string pa)) := (hBm2.setCell (Nat.le_refl M) _).setCell (Nat.le_refl M) _
          generalize World.setCell (World.setCell wf _ _) _ _ = wg at hm3 hbx7 hBm3 ⊢
          clear hm2 hbx6 hBm2 m6 m7 n6 n7
          have m1 : wg.cell? ⟨M, 1, none⟩ = some (.int .u8 0) := hm3.1 1 (by omega)
          go_quiet ((go_at_call 17; exact Calls.quiet_of_same (opp0 _)))
          go_wp2_with fail
          have hlt2 := hI2.lt
          have hE0 : En N 32 b.g b.n M P b.kf b.af tk ta (upd (upd (ask0 0 f.k) 6 (.string pk)) 7 (.string pa)) wd wg := by
            have hIg := hI2.later (hM2 ▸ hBm3)
            exact ⟨by omega, by omega, by omega, (hIg.n.1 32 (by omega)).trans (by rw [hIg.tb.e]), hIg.rb, hm3, hbx7, hBm3, by have := hBm3.size; have := hm3.lt (by omega); omega⟩
          have HE0 : Hid _ := hE0
          have m13 : wg.cell? ⟨M, 13, none⟩ = some (.int .i64 f.k) := hm3.1 13 (by omega)
          clear hE0 hm3 hbx7 hBm3 m1
          go_cut [] from 132 to 143 (fun wx => En N 32 b.g b.n M P b.kf b.af tk ta (askC 0 pk pa (atP b.n b.kf f.k) (atP b.n b.af f.k) (atP b.n b.kf ((f.k : Int) - 1)) f.k) wd wx)
          case first =>
            go_region_with (go_at_call 18; (first | refine ((HE.out.drewN _).entry _).mono ?_ | refine (HE.out.drew.entry _).mono ?_ | refine (HE.out.entry _).mono ?_ | refine ((HE0.out.drewN _).entry _).mono ?_); rintro e wx ⟨rfl, hEx⟩; have m13 : wx.cell? ⟨M, 13, none⟩ = some (.int .i64 f.k) := hEx.m.1 13 (by omega); have m14 := hEx.m.1 14 (by omega); have m15 := hEx.m.1 15 (by omega); have m16 := hEx.m.1 16 (by omega); have n14 := hEx.m.2 14; have n15 := hEx.m.2 15; have n16 := hEx.m.2 16; have HE : Hid _ := hEx; clear hEx)
            all_goals
              go_wp2
              go_meet
              case rel => exact (((HE.out.set 14 (by omega) _).set 15 (by omega) _).set 16 (by omega) _).congr (ask_eqF _ _ _ _ _ _)
          case rest =>
            have HE1 : Hid _ := hcut
            have hmc := hcut.m
            have hpc := hcut.p
            have hMc := hcut.hM
            have HS1 : Hid _ := ask_oneS 0 f.k pk pa (atP b.n b.kf f.k) (atP b.n b.af f.k) (atP b.n b.kf ((f.k : Int) - 1)) tk ta uk ua
            have HO1 : Hid _ := ask_one 0 f.k pk pa (atP b.n b.kf f.k) (atP b.n b.af f.k) (atP b.n b.kf ((f.k : Int) - 1))
            have hc13 : askC 0 pk pa (atP b.n b.kf f.k) (atP b.n b.af f.k) (atP b.n b.kf ((f.k : Int) - 1)) f.k 13 = .int .i64 f.k := rfl
            have HSN : Hid (f.sent b 0 uk ua pk pa = [sL tk ta (upd (upd (askC 0 pk pa (atP b.n b.kf f.k) (atP b.n b.af f.k) (atP b.n b.kf ((f.k : Int) - 1)) f.k) 4 (.string uk)) 5 (.string ua))] ∧ f.noted = [.int .u8 83]) := by
              have htd2 : f.told = false := htd
              unfold Tb.sent Tb.noted; rw [htd2, HTK.out.1, HTK.out.2]; exact ⟨rfl, rfl⟩
            clear hcut
            obtain ⟨wi, hwi⟩ : ∃ wi, wi = wc := ⟨_, rfl⟩
            rw [← hwi] at HE1 hmc hpc hMc
            rw [← hwi]
            generalize askC 0 pk pa (atP b.n b.kf f.k) (atP b.n b.af f.k) (atP b.n b.kf ((f.k : Int) - 1)) f.k = cm at HE1 hmc HS1 HO1 hc13 HSN
            clear hwi
            have m13 : wi.cell? ⟨M, 13, none⟩ = some (.int .i64 f.k) := (hmc.1 13 (by omega)).trans (by rw [hc13])
            have hrow := msg_rowL hmc
            have p0 : wi.cell? ⟨P, 0, none⟩ = some (.string tk) := hpc.1 0 (by omega)
            have p1 : wi.cell? ⟨P, 1, none⟩ = some (.string ta) := hpc.1 1 (by omega)
            have hIi := hI2.later (hM2 ▸ HE1.out.b)
            by_cases hkz : f.k = 0
            · have hkz2 : ((f.k : Int)) = 0 := by omega
              rw [hkz2] at m13
              go_wp2_with fail
              refine (withLists_one N cm wi (by have := hIi.lt; omega) HO1.out ((hIi.n.1 7 (by omega)).trans (by rw [hIi.p.h7]))).mono ?_
              rintro e wj ⟨rfl, hBj⟩
              have hEj := (HE1.out.later hBj).over cm
              have hst := store_over wj M cm cm (HE1.out.later hBj).m HO1.out
              have hrow2 := msg_rowL hEj.m
              have p02 : (wj.setCells M 0 (mL cm)).cell? ⟨P, 0, none⟩ = some (.string tk) := hEj.p.1 0 (by omega)
              have p12 : (wj.setCells M 0 (mL cm)).cell? ⟨P, 1, none⟩ = some (.string ta) := hEj.p.1 1 (by omega)
              have HE2 : Hid _ := hEj
              have hIj : TI N H G gS nS capS uk ua sk sa f.step b [] [] w cd (wj.setCells M 0 (mL cm)) := hI2.later (by rw [hM2]; exact hEj.b)
              clear hEj
              go_wp2_with fail
              clear hst hrow2 p02 p12 HE2
              generalize World.setCells wj M 0 (mL cm) = wl at hIj ⊢
              refine (send_any N H G _ [] [] cd cm tk ta uk ua wl hIj.n (by have := hIj.lt; omega) hIj.p.h0 hIj.p.h1 hIj.p.h2 HS1.out hIj.h (by simp) (by simp)).mono ?_
              rintro e wk ⟨rfl, hHk, hKk⟩
              have hIk := hIj.sent hHk hKk
              rw [List.nil_append, List.nil_append, ← HSN.out.1, ← HSN.out.2] at hIk
              have HR : Hid _ := hIk
              clear hIk hHk hKk
              go_wp2_with fail
              go_roundw
              case measure => simp [intOf]
              case rel => exact .inr (.inl ⟨rfl, _, HR.out⟩)
            · have hkb : (f.k : Int) ≠ 0 := by omega
              go_wp2_with fail
              refine (send_any N H G _ [] [] cd cm tk ta uk ua wi hIi.n (by have := hIi.lt; omega) hIi.p.h0 hIi.p.h1 hIi.p.h2 HS1.out hIi.h (by simp) (by simp)).mono ?_
              rintro e wk ⟨rfl, hHk, hKk⟩
              have hIk := hIi.sent hHk hKk
              rw [List.nil_append, List.nil_append, ← HSN.out.1, ← HSN.out.2] at hIk
              have HR : Hid _ := hIk
              clear hIk hHk hKk
              go_wp2_with fail
              go_roundw
              case measure => simp [intOf]
              case rel => exact .inr (.inl ⟨rfl, _, HR.out⟩)
    · obtain ⟨LS, hLS⟩ : ∃ LS, LS = f.sent b 0 uk ua pk pa := ⟨_, rfl⟩
      obtain ⟨OS, hOS⟩ : ∃ OS, OS = f.noted := ⟨_, rfl⟩
      have HLS : Hid (LS.length ≤ 1 ∧ OS.length ≤ 1 ∧ LS = f.sent b 0 uk ua pk pa ∧ OS = f.noted) := ⟨by rw [hLS]; unfold Tb.sent; split <;> simp, by rw [hOS]; unfold Tb.noted; split <;> simp, hLS, hOS⟩
      rw [← hLS, ← hOS] at hI
      clear hLS hOS
      obtain ⟨tk, htk⟩ : ∃ tk, tk = b.kf b.k := ⟨_, rfl⟩
      obtain ⟨ta, hta⟩ : ∃ ta, ta = b.af b.k := ⟨_, rfl⟩
      have e21 : wr.cell? ⟨N, 32, none⟩ = some (.slice (some ⟨b.g, 0, none⟩) b.n b.n) := (hI.n.1 32 (by omega)).trans (by rw [hI.tb.e])
      have e24 : wr.cell? ⟨N, 35, none⟩ = some (.int .i64 b.k) := (hI.n.1 35 (by omega)).trans (by rw [hI.tb.w])
      have r0 : wr.cell? ⟨b.g, b.k * 3, none⟩ = some (.string tk) := by rw [htk]; exact (hI.rb b.k hbk').1
      have r1 : wr.cell? ⟨b.g, b.k * 3 + 1, none⟩ = some (.string ta) := by rw [hta]; exact (hI.rb b.k hbk').2
      have HTK : Hid (tk = b.kf b.k ∧ ta = b.af b.k) := ⟨htk, hta⟩
      clear htk hta
      have hNr : N < wr.heap.size := by have := hI.lt; omega
      have hgr : b.g < wr.heap.size := by have := hI.lt; omega
      have hk0 : (0 : Int) ≤ (b.k : Int) := by omega
      have hk7 : (b.k : Int) < (b.n : Int) := by omega
      go_wp2_with fail
      go_region
      have hbx := (peer_fresh wr tk ta 30).drew
      have hBx : Below wr.heap.size wr (wr.alloc (.cells #[.string tk, .string ta] 30)).drew := ((Below.refl _ wr).alloc (Nat.le_refl _) _).drew
      have hIa := hI.later hBx
      have hPl : wr.heap.size < (wr.alloc (.cells #[.string tk, .string ta] 30)).drew.heap.size := by simp
      obtain ⟨P, hP⟩ : ∃ P, P = wr.heap.size := ⟨_, rfl⟩
      rw [← hP] at hbx hPl ⊢
      have hPG : G ≤ P := by rw [hP]; exact hI.lt.2.2.2.2
      generalize World.drew _ = wa at hbx hIa hPl hBx ⊢
      clear hP hI e21 e24 r0 r1 hNr hgr hBx
      have b0 : wa.cell? ⟨P, 0, none⟩ = some (.string tk) := hbx.1 0 (by omega)
      have b1 : wa.cell? ⟨P, 1, none⟩ = some (.string ta) := hbx.1 1 (by omega)
      have a25 : wa.cell? ⟨N, 36, none⟩ = some (.string b.qk) := (hIa.n.1 36 (by omega)).trans (by rw [hIa.tb.qk])
      have a26 : wa.cell? ⟨N, 37, none⟩ = some (.string b.qa) := (hIa.n.1 37 (by omega)).trans (by rw [hIa.tb.qa])
      go_wp2_with fail
      obtain ⟨u0, hu0⟩ : ∃ u0, u0 = b.u0 := ⟨_, rfl⟩
      have hue : b.u0 = if peq tk ta b.qk b.qa then b.u else 0 := by rw [HTK.out.1, HTK.out.2]; rfl
      have hun : 0 ≤ u0 ∧ u0 < 3 := by have := HUL.out; rw [hu0, hue]; split <;> omega
      have HU : Hid (u0 = b.u0) := hu0
      have HUE : Hid _ := hue
      clear hu0 hue
      go_quiet (fail)
      go_upto_if 95 with fail
      go_cut [] from 95 to 102 (fun wx => (∃ cx, TI N H G gS nS capS uk ua sk sa f.step { b with qk := tk, qa := ta, u := u0 } LS OS w cx wx) ∧ Blk wx P 2 (peerC tk ta))
      case first =>
        by_cases hpq : peq tk ta b.qk b.qa = true
        · have hnq : (!peq tk ta b.qk b.qa) = false := by rw [hpq]; rfl
          rw [hnq]
          go_wp2_with fail
          have hq := (peq_iff _ _ _ _).1 hpq
          have hIb : TI N H G gS nS capS uk ua sk sa f.step { b with qk := tk, qa := ta, u := u0 } LS OS w cr (wa.drewN nq) := by
            have e : ({ b with qk := tk, qa := ta, u := u0 } : Tb) = b := by rw [HU.out, HUE.out, if_pos hpq, hq.1, hq.2]
            rw [e]; exact hIa.drewN nq
          go_meet
          case rel => exact ⟨⟨_, hIb⟩, hbx.drewN nq⟩
        · replace hpq : peq tk ta b.qk b.qa = false := by simpa using hpq
          have hnq : (!peq tk ta b.qk b.qa) = true := by rw [hpq]; rfl
          rw [hnq]
          have g25 := hIa.n.2 36
          have g26 := hIa.n.2 37
          have g27 := hIa.n.2 38
          have a27 : (wa.cell? ⟨N, 38, none⟩) = some (.int .i64 b.u) := (hIa.n.1 38 (by omega)).trans (by rw [hIa.tb.u])
          go_wp2_with fail
          have hu00 : u0 = 0 := by rw [HU.out, HUE.out, hpq]; rfl
          have hI1 := (hIa.drewN nq).setB 36 (by omega) (.string tk) { b with qk := tk } ⟨hIa.tb.e, hIa.tb.w, rfl, hIa.tb.qa, hIa.tb.u, hIa.tb.t⟩ ⟨rfl, rfl, rfl, rfl⟩
          have hI2 := hI1.setB 37 (by omega) (.string ta) { b with qk := tk, qa := ta } ⟨hIa.tb.e, hIa.tb.w, rfl, rfl, hIa.tb.u, hIa.tb.t⟩ ⟨rfl, rfl, rfl, rfl⟩
          have hIb := hI2.setB 38 (by omega) (.int .i64 0) { b with qk := tk, qa := ta, u := u0 } ⟨hIa.tb.e, hIa.tb.w, rfl, rfl, by rw [hu00]; rfl, hIa.tb.t⟩ ⟨rfl, rfl, rfl, rfl⟩
          have hPN : P ≠ N := by have := hIa.lt; omega
          have hbx2 := (((hbx.drewN nq).setOther ⟨N, 36, none⟩ hPN (.string tk)).setOther ⟨N, 37, none⟩ hPN (.string ta)).setOther ⟨N, 38, none⟩ hPN (.int .i64 0)
          go_meet
          case rel => exact ⟨⟨_, hIb⟩, hbx2⟩
      case rest =>
        obtain ⟨⟨cb, hIb⟩, hbx2⟩ := hcut
        have hPl2 := hbx2.lt (by omega)
        obtain ⟨wb, hwb⟩ : ∃ wb, wb = wc := ⟨_, rfl⟩
        rw [← hwb] at hIb hbx2 hPl2
        rw [← hwb]
        clear hwb hIa hbx hPl b0 b1 a25 a26
        go_wp2_with fail
        by_cases htd : toldAt b.t b.k = true
        · refine (spared_yes N 32 b.g b.n b.n b.k b.t wb hbk' hbn ((hIb.n.1 32 (by omega)).trans (by rw [hIb.tb.e])) ((hIb.n.1 35 (by omega)).trans (by rw [hIb.tb.w])) (hIb.n.2 35) ((hIb.n.1 39 (by omega)).trans (by rw [hIb.tb.t])) (hIb.n.2 39) htd).mono ?_
          rintro e wc ⟨rfl, q2, hwc⟩
          have hI1 := (hIb.setB 39 (by omega) (.int .u64 (bits .andNot .u64 b.t (bitOf b.k))) { b with qk := tk, qa := ta, u := u0, t := bits .andNot .u64 b.t (bitOf b.k) } ⟨hIb.tb.e, hIb.tb.w, hIb.tb.qk, hIb.tb.qa, hIb.tb.u, rfl⟩ ⟨rfl, rfl, rfl, rfl⟩).drewN q2
          have hI2 := hI1.setB 35 (by omega) (.int .i64 (stepUp b.k b.n)) { b with qk := tk, qa := ta, u := u0, t := bits .andNot .u64 b.t (bitOf b.k), k := stepUp b.k b.n } ⟨hI1.tb.e, rfl, hI1.tb.qk, hI1.tb.qa, hI1.tb.u, hI1.tb.t⟩ ⟨rfl, rfl, rfl, rfl⟩
          rw [← hwc] at hI2
          have htd2 : b.told = true := htd
          have es : ({ b with qk := tk, qa := ta, u := u0, t := bits .andNot .u64 b.t (bitOf b.k), k := stepUp b.k b.n } : Tb) = b.step := by
            unfold Tb.step; rw [htd2, HU.out, HTK.out.1, HTK.out.2]; rfl
          rw [es] at hI2
          have HR : Hid _ := hI2
          clear hI1 hI2 hIb hwc hbx2 hPl2 es htd2
          go_wp2_with fail
          go_roundw
          case measure => simp [intOf]
          case rel => 
            have e1 : b.sent f 1 uk ua ⟨#[]⟩ ⟨#[]⟩ = [] := by unfold Tb.sent Tb.told; rw [htd]; rfl
            have e2 : b.noted = [] := by unfold Tb.noted Tb.told; rw [htd]; rfl
            exact .inr (.inr ⟨rfl, _, by rw [e1, e2, List.append_nil, List.append_nil, ← HLS.out.2.2.1, ← HLS.out.2.2.2]; exact HR.out⟩)
        · replace htd : toldAt b.t b.k = false := by simpa using htd
          refine (spared_no N 32 b.k b.t wb ((hIb.n.1 35 (by omega)).trans (by rw [hIb.tb.w])) ((hIb.n.1 39 (by omega)).trans (by rw [hIb.tb.t])) (hIb.n.2 39) htd).mono ?_
          rintro e wc ⟨rfl, hwc⟩
          have hI1 := hIb.setB 39 (by omega) (.int .u64 (bits .andNot .u64 b.t (bitOf b.k))) { b with qk := tk, qa := ta, u := u0, t := bits .andNot .u64 b.t (bitOf b.k) } ⟨hIb.tb.e, hIb.tb.w, hIb.tb.qk, hIb.tb.qa, hIb.tb.u, rfl⟩ ⟨rfl, rfl, rfl, rfl⟩
          have hPN : P ≠ N := by have := hIb.lt; omega
          have hbx3 := hbx2.setOther ⟨N, 39, none⟩ hPN (.int .u64 (bits .andNot .u64 b.t (bitOf b.k)))
          have hPl3 : P < (wb.setCell ⟨N, 39, none⟩ (.int .u64 (bits .andNot .u64 b.t (bitOf b.k)))).heap.size := by simpa using hPl2
          rw [← hwc] at hI1 hbx3 hPl3
          clear hIb hbx2 hPl2 hwc
          have u27 : wc.cell? ⟨N, 38, none⟩ = some (.int .i64 u0) := (hI1.n.1 38 (by omega)).trans (by rw [hI1.tb.u])
          have g27 := hI1.n.2 38
          have k24 : wc.cell? ⟨N, 35, none⟩ = some (.int .i64 b.k) := (hI1.n.1 35 (by omega)).trans (by rw [hI1.tb.w])
          obtain ⟨hun0, hun3⟩ := hun
          have hwr1 : IntKind.i64.wrap ((b.k : Int) - 1) = (b.k : Int) - 1 := IntWalk.i64_in _ ⟨by omega, by omega⟩
          have hm := msg_fresh (wc.setCell ⟨N, 38, none⟩ (.int .i64 (u0 + 1))) (ask0 1 b.k) 72
          have hM2 : (wc.setCell ⟨N, 38, none⟩ (.int .i64 (u0 + 1))).heap.size = wc.heap.size := by simp
          rw [hM2] at hm
          have m1 : ((wc.setCell ⟨N, 38, none⟩ (.int .i64 (u0 + 1))).alloc (.cells (mA (ask0 1 b.k)) 72)).cell? ⟨wc.heap.size, 1, none⟩ = some (.int .u8 1) := hm.1 1 (by omega)
          go_wp2_with fail
          have hI2 := hI1.setB 38 (by omega) (.int .i64 (u0 + 1)) { b with qk := tk, qa := ta, u := u0 + 1, t := bits .andNot .u64 b.t (bitOf b.k) } ⟨hI1.tb.e, hI1.tb.w, hI1.tb.qk, hI1.tb.qa, rfl, hI1.tb.t⟩ ⟨rfl, rfl, rfl, rfl⟩
          have htd2 : b.told = false := htd
          have es : ({ b with qk := tk, qa := ta, u := u0 + 1, t := bits .andNot .u64 b.t (bitOf b.k) } : Tb) = b.step := by
            unfold Tb.step; rw [htd2, HU.out, HTK.out.1, HTK.out.2]; rfl
          rw [es] at hI2
          have hbx4 := hbx3.setOther ⟨N, 38, none⟩ hPN (.int .i64 (u0 + 1))
          have hPl4 : P < (wc.setCell ⟨N, 38, none⟩ (.int .i64 (u0 + 1))).heap.size := by simpa using hPl3
          clear m1
          obtain ⟨M, hM⟩ : ∃ M, M = wc.heap.size := ⟨_, rfl⟩
          rw [← hM] at hm
          rw [← hM] at hM2
          rw [← hM]
          clear hI1 hbx3 hPl3 u27 g27 k24 hM es htd2
          generalize World.setCell wc _ _ = wd at hI2 hbx4 hPl4 hm hM2 ⊢
          generalize upd _ 38 _ = cd at hI2 ⊢
          have hBm : Below M wd (wd.alloc (.cells (mA (ask0 1 b.k)) 72)) := (Below.refl _ _).alloc (by omega) _
          have hMl : M < (wd.alloc (.cells (mA (ask0 1 b.k)) 72)).heap.size := by simp; omega
          generalize World.alloc wd _ = wg at hm hBm hMl ⊢
          rw [hM2] at hPl4
          have hIe := hI2.later (hM2 ▸ hBm)
          have hMG : G ≤ M := by have := hI2.lt; omega
          have hMN : M ≠ N := by have := hI2.lt; omega
          have hbx5 := hbx4.below hBm (by omega)
          have hm3 := hm
          have hPM : P ≠ M := by omega
          have hbx7 := hbx5
          have hBm3 := hBm
          clear hm hBm hIe hbx5 hMl hbx4
          have m1 : wg.cell? ⟨M, 1, none⟩ = some (.int .u8 1) := hm3.1 1 (by omega)
          go_quiet ((go_at_call 17; exact Calls.quiet_of_same (opp1 _)))
          go_wp2_with fail
          have hlt2 := hI2.lt
          have hfg : f.step.g = f.g := rfl
          have hbg : b.step.g = b.g := rfl
          have hE0 : En N 21 f.g f.n M P f.kf f.af tk ta (ask0 1 b.k) wd wg := by
            have hIg := hI2.later (hM2 ▸ hBm3)
            exact ⟨by omega, by omega, by omega, (hIg.n.1 21 (by omega)).trans (congrArg some hIg.tf.e), hIg.rf, hm3, hbx7, hBm3, by have := hBm3.size; have := hm3.lt (by omega); omega⟩
          have HE0 : Hid _ := hE0
          have m13 : wg.cell? ⟨M, 13, none⟩ = some (.int .i64 b.k) := hm3.1 13 (by omega)
          clear hE0 hm3 hbx7 hBm3 m1
          go_cut [] from 132 to 143 (fun wx => En N 21 f.g f.n M P f.kf f.af tk ta (askC 1 ⟨#[]⟩ ⟨#[]⟩ (atP f.n f.kf b.k) (atP f.n f.af b.k) (atP f.n f.kf ((b.k : Int) - 1)) b.k) wd wx)
          case first =>
            go_region_with (go_at_call 18; (first | refine ((HE.out.drewN _).entry _).mono ?_ | refine (HE.out.drew.entry _).mono ?_ | refine (HE.out.entry _).mono ?_ | refine ((HE0.out.drewN _).entry _).mono ?_); rintro e wx ⟨rfl, hEx⟩; have m13 : wx.cell? ⟨M, 13, none⟩ = some (.int .i64 b.k) := hEx.m.1 13 (by omega); have m14 := hEx.m.1 14 (by omega); have m15 := hEx.m.1 15 (by omega); have m16 := hEx.m.1 16 (by omega); have n14 := hEx.m.2 14; have n15 := hEx.m.2 15; have n16 := hEx.m.2 16; have HE : Hid _ := hEx; clear hEx)
            all_goals
              go_wp2
              go_meet
              case rel => exact (((HE.out.set 14 (by omega) _).set 15 (by omega) _).set 16 (by omega) _).congr (ask_eqB _ _ _ _)
          case rest =>
            have HE1 : Hid _ := hcut
            have hmc := hcut.m
            have hpc := hcut.p
            have hMc := hcut.hM
            have HS1 : Hid _ := ask_oneS 1 b.k ⟨#[]⟩ ⟨#[]⟩ (atP f.n f.kf b.k) (atP f.n f.af b.k) (atP f.n f.kf ((b.k : Int) - 1)) tk ta uk ua
            have HO1 : Hid _ := ask_one 1 b.k ⟨#[]⟩ ⟨#[]⟩ (atP f.n f.kf b.k) (atP f.n f.af b.k) (atP f.n f.kf ((b.k : Int) - 1))
            have hc13 : askC 1 ⟨#[]⟩ ⟨#[]⟩ (atP f.n f.kf b.k) (atP f.n f.af b.k) (atP f.n f.kf ((b.k : Int) - 1)) b.k 13 = .int .i64 b.k := rfl
            have HSN : Hid (b.sent f 1 uk ua ⟨#[]⟩ ⟨#[]⟩ = [sL tk ta (upd (upd (askC 1 ⟨#[]⟩ ⟨#[]⟩ (atP f.n f.kf b.k) (atP f.n f.af b.k) (atP f.n f.kf ((b.k : Int) - 1)) b.k) 4 (.string uk)) 5 (.string ua))] ∧ b.noted = [.int .u8 83]) := by
              have htd2 : b.told = false := htd
              unfold Tb.sent Tb.noted; rw [htd2, HTK.out.1, HTK.out.2]; exact ⟨rfl, rfl⟩
            clear hcut
            obtain ⟨wi, hwi⟩ : ∃ wi, wi = wc := ⟨_, rfl⟩
            rw [← hwi] at HE1 hmc hpc hMc
            rw [← hwi]
            generalize askC 1 ⟨#[]⟩ ⟨#[]⟩ (atP f.n f.kf b.k) (atP f.n f.af b.k) (atP f.n f.kf ((b.k : Int) - 1)) b.k = cm at HE1 hmc HS1 HO1 hc13 HSN
            clear hwi
            have m13 : wi.cell? ⟨M, 13, none⟩ = some (.int .i64 b.k) := (hmc.1 13 (by omega)).trans (by rw [hc13])
            have hrow := msg_rowL hmc
            have p0 : wi.cell? ⟨P, 0, none⟩ = some (.string tk) := hpc.1 0 (by omega)
            have p1 : wi.cell? ⟨P, 1, none⟩ = some (.string ta) := hpc.1 1 (by omega)
            have hIi := hI2.later (hM2 ▸ HE1.out.b)
            by_cases hkz : b.k = 0
            · have hkz2 : ((b.k : Int)) = 0 := by omega
              rw [hkz2] at m13
              go_wp2_with fail
              refine (withLists_one N cm wi (by have := hIi.lt; omega) HO1.out ((hIi.n.1 7 (by omega)).trans (by rw [hIi.p.h7]))).mono ?_
              rintro e wj ⟨rfl, hBj⟩
              have hEj := (HE1.out.later hBj).over cm
              have hst := store_over wj M cm cm (HE1.out.later hBj).m HO1.out
              have hrow2 := msg_rowL hEj.m
              have p02 : (wj.setCells M 0 (mL cm)).cell? ⟨P, 0, none⟩ = some (.string tk) := hEj.p.1 0 (by omega)
              have p12 : (wj.setCells M 0 (mL cm)).cell? ⟨P, 1, none⟩ = some (.string ta) := hEj.p.1 1 (by omega)
              have HE2 : Hid _ := hEj
              have hIj : TI N H G gS nS capS uk ua sk sa f.step b.step LS OS w cd (wj.setCells M 0 (mL cm)) := hI2.later (by rw [hM2]; exact hEj.b)
              clear hEj
              go_wp2_with fail
              clear hst hrow2 p02 p12 HE2
              generalize World.setCells wj M 0 (mL cm) = wl at hIj ⊢
              refine (send_any N H G _ LS OS cd cm tk ta uk ua wl hIj.n (by have := hIj.lt; omega) hIj.p.h0 hIj.p.h1 hIj.p.h2 HS1.out hIj.h (by have := HLS.out.1; omega) (by have := HLS.out.2.1; omega)).mono ?_
              rintro e wk ⟨rfl, hHk, hKk⟩
              have hIk := hIj.sent hHk hKk
              rw [← HSN.out.1, ← HSN.out.2] at hIk
              have HR : Hid _ := hIk
              clear hIk hHk hKk
              go_wp2_with fail
              go_roundw
              case measure => simp [intOf]
              case rel => exact .inr (.inr ⟨rfl, _, by rw [← HLS.out.2.2.1, ← HLS.out.2.2.2]; exact HR.out⟩)
            · have hkb : (b.k : Int) ≠ 0 := by omega
              go_wp2_with fail
              refine (send_any N H G _ LS OS cd cm tk ta uk ua wi hIi.n (by have := hIi.lt; omega) hIi.p.h0 hIi.p.h1 hIi.p.h2 HS1.out hIi.h (by have := HLS.out.1; omega) (by have := HLS.out.2.1; omega)).mono ?_
              rintro e wk ⟨rfl, hHk, hKk⟩
              have hIk := hIi.sent hHk hKk
              rw [← HSN.out.1, ← HSN.out.2] at hIk
              have HR : Hid _ := hIk
              clear hIk hHk hKk
              go_wp2_with fail
              go_roundw
              case measure => simp [intOf]
              case rel => exact .inr (.inr ⟨rfl, _, by rw [← HLS.out.2.2.1, ← HLS.out.2.2.2]; exact HR.out⟩)
    · go_wp2_with fail
      refine (tickRecords_none N wr (by have := hI.lt; omega) ((hI.n.1 15 (by omega)).trans (by rw [hI.p.h15])) ((hI.n.1 16 (by omega)).trans (by rw [hI.p.h16])) ((hI.n.1 17 (by omega)).trans (by rw [hI.p.h17])) ((hI.n.1 18 (by omega)).trans (by rw [hI.p.h18])) ((hI.n.1 58 (by omega)).trans (by rw [hI.p.h58]))).mono ?_
      rintro e wa ⟨rfl, hwa⟩
      have hIa := hI.later (w' := wa) (by rw [hwa]; exact (Below.refl _ _).alloc (Nat.le_refl _) _)
      clear hwa hI
      go_wp2_with fail
      refine (resume_none N wa (by have := hIa.lt; omega) ((hIa.n.1 13 (by omega)).trans (by rw [hIa.p.h13])) (hIa.n.2 13)).mono ?_
      rintro e wb ⟨rfl, hwb⟩
      have hup : upd cr 13 (.slice none 0 0) = cr := by
        funext j; unfold upd; split
        · next h => rw [h, hIa.p.h13]
        · rfl
      have hIb := hIa.set_ 13 (by omega) (.slice none 0 0) f.step b.step (by rw [hup]; exact hIa.p) (by rw [hup]) (by rw [hup]; exact hIa.tf) (by rw [hup]; exact hIa.tb) ⟨rfl, rfl, rfl, rfl⟩ ⟨rfl, rfl, rfl, rfl⟩
      rw [hup, ← hwb] at hIb
      clear hup hwb hIa
      have d2 : wb.cell? ⟨N, 2, none⟩ = some (.iface 24 (.pointer (some ⟨H, 0, none⟩))) := (hIb.n.1 2 (by omega)).trans (by rw [hIb.p.h2])
      have hmt := method_wake
      have hl1 : (f.sent b 0 uk ua pk pa ++ b.sent f 1 uk ua ⟨#[]⟩ ⟨#[]⟩).length ≤ 10 := by unfold Tb.sent; split <;> split <;> simp
      have hl2 : (f.noted ++ b.noted).length ≤ 10 := by unfold Tb.noted; split <;> split <;> simp
      go_wp2_with fail
      refine (host_wake H G _ _ 1000000000 wb hIb.h hl1 hl2).mono ?_
      rintro e wd ⟨rfl, hHd, hKd⟩
      have HF : Hid (Ticked N H G uk ua pk pa f b w wd) := by
        obtain ⟨l1, l2, l3, l4, l5⟩ := hIb.lt
        obtain ⟨n1, n2, n3, n4, n5, n6, n7⟩ := hIb.ne
        exact ⟨cr, hIb.n.kept hKd (by omega) (by omega), hIb.p.h14, hIb.tf, hIb.tb, hHd, hIb.k.trans (hKd.mono fun k h => .inr h)⟩
      clear hHd hKd hIb
      go_wp2_with fail
      go_end0
      exact ⟨rfl, HF.out⟩
end Go.Proofs.YbulkbpcaGreat
