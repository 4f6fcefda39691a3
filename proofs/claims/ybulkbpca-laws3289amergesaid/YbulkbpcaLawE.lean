import Derived.Test.YbulkbpcaLawA
namespace Go.Proofs.Ybulkbpca
open Go.ChangeShapes Go.WideShapes Go.ChangeAt Go.RowKit
set_option linter.unusedVariables false
attribute [local go_sem ↓] Go.wp_at_zero Go.wp_at_succ
attribute [local go_sem ↓] eq_peer
attribute [local go_sem] guard_peer field_key msg_cells rowL_drew rowL_drewN rowL_alloc rowL_setCell load_msg store_msg
attribute [local go_sem ↓] load_msg0 store_msg0

set_option maxRecDepth 1000000 in
set_option maxHeartbeats 4000000 in
/-- Behind 'merge', the peer linked and told: all is as the law says. -/
theorem tail_own (a0 a1 a2 a3 a4 a5 : ByteArray) (a6 a7 a8 : Int) (a9 : Option Addr) (len9 cap9 : Nat) (z9 : List Int) (a10 : Int) (w : World) (hl : len9 ≤ 1024) (B H N : Nat) (HB : Hid (B = w.heap.size)) (HZ : Hid (ArgAt B w a9 len9 z9)) (r : Int) (wc : World) (hE : EndOwn w B H N a0 a1 a2 a3 a4 a5 a4 a7 a8 r len9 z9 wc) (j29 j30 j31 j32 j41 j42 j43 j44 j45 j46 j47 j48 j49 j50 j51 j52 j53 j54 j55 j56 j57 j58 j59 j60 j61 j62 j63 j64 j65 j66 j67 j68 j69 j70 j71 j72 j73 j74 j75 j76 j77 j78 j79 j80 j81 j82 j83 j84 j85 j86 j87 j88 j89 j90 j91 j92 j93 j94 j95 j96 j97 j98 j99 j100 : Value) :
    Code.wp Yba.prog ((Yba.f3.body.bind (afterRegion 20)).getD .skip) (bodyPost Yba.prog Yba.f3 fun e w' => e = .returned (.bool true) ∧ Below w.heap.size w w')
      ⟨#[.string a0, .string a1, .string a2, .string a3, .string a4, .string a5, .int .u8 a6, .int .u64 a7, .int .i64 a8, .slice a9 len9 cap9, .int .u8 a10, undef, undef, undef, undef, undef, undef, undef, undef, undef, undef, undef, .bool false, .pointer (some ⟨B, 0, none⟩), .pointer (some ⟨B + 1, 0, none⟩), .pointer (some ⟨B + 1 + 1, 0, none⟩), .int .i64 r, .pointer (some ⟨H, 0, none⟩), .pointer (some ⟨N, 0, none⟩), j29, j30, j31, j32, undef, undef, undef, undef, undef, undef, undef, undef, j41, j42, j43, j44, j45, j46, j47, j48, j49, j50, j51, j52, j53, j54, j55, j56, j57, j58, j59, j60, j61, j62, j63, j64, j65, j66, j67, j68, j69, j70, j71, j72, j73, j74, j75, j76, j77, j78, j79, j80, j81, j82, j83, j84, j85, j86, j87, j88, j89, j90, j91, j92, j93, j94, j95, j96, j97, j98, j99, j100, undef, undef, undef, undef, undef, undef, undef, undef, undef, undef, undef, undef, undef, undef, undef, undef, undef, undef, undef, undef, undef, undef, undef, undef, undef, undef, undef, undef, undef, undef, undef, undef, undef, undef, undef, undef, undef, undef, undef, undef, undef, undef, undef, undef, undef, undef, undef, undef, undef, undef, undef, undef, undef, undef, undef, undef, undef, undef, undef, undef, undef, undef, undef, undef, undef, undef, undef, undef, undef, undef, undef, undef, undef, undef, undef, undef, undef, undef, undef, undef, undef, undef, undef, undef, undef, undef, undef, undef, undef, undef, undef, undef, undef, undef, undef, undef, undef, undef, undef, undef, undef, undef, undef, undef, undef, undef, undef, undef, undef, undef, undef, undef, undef, undef, undef, undef, undef, undef, undef, undef, undef, undef, undef, undef, undef, undef, undef, undef, undef, undef, undef, undef, undef, undef, undef, undef, undef, undef, undef, undef, undef, undef, undef, undef, undef, undef, undef, undef, undef, undef, undef, undef, undef, undef, undef, undef, undef, undef, undef, undef, undef, undef, undef, undef, undef, undef, undef, undef, undef, undef, undef, undef, undef, undef, undef, undef, undef, undef, undef, undef, undef, undef, undef, undef, undef, undef, undef, undef, undef, undef, undef, undef, undef, undef, undef, undef, undef, undef, undef, undef, undef, undef, undef, undef, undef, undef, undef, undef, undef, undef, undef, undef, undef, undef, undef, undef, undef, undef, undef, undef, undef, undef, undef, undef, undef, undef, undef, undef, undef, undef, undef, undef, undef, undef, undef, undef, undef, undef, undef, undef, undef, undef, undef, undef, undef, undef, undef, undef, undef, undef, undef, undef, undef, undef, undef, undef, undef, undef, undef, undef, undef, undef, undef, undef, undef, undef, undef, undef, undef, undef, undef, undef, undef, undef, undef, undef, undef, undef, undef, undef, undef, undef, undef, undef, undef, undef, undef, undef, undef, undef, undef, undef, undef, undef, undef, undef, undef, undef, undef, undef, undef, undef, undef, undef, undef, undef, undef, undef, undef, undef, undef, undef, undef], []⟩ wc := by
  obtain ⟨c, g0, S, L, lg, lcap, g, cap, g2, cap2, hpq, harc, hP, hh, hgr, hmr, hn, c5, c11, c12, c19, c21, c43, c44, c57, c66, c67, hL, hlg, hcon⟩ := hE
  have hLw := hL.lt (by omega)
  have hlgw := hlg.lt (by omega)
  obtain ⟨sa, sc, rfl⟩ : ∃ a c, S = .slice a len9 c := by rcases hcon with ⟨rfl, rfl⟩ | ⟨cap, rfl, _⟩ <;> exact ⟨_, _, rfl⟩
  have HC : Hid _ := hcon
  clear hcon
  have hHw := hh.lt (by omega)
  have hNw := hn.lt (by omega)
  have hgw := hgr.lt (by omega)
  have hg2w := hmr.lt (by omega)
  have o2 : wc.cell? ⟨H, 2, none⟩ = some (.int .i64 0) := hh.1 2 (by omega)
  have x0 : wc.cell? ⟨B + 1 + 1, 0, none⟩ = some (.string a4) := hP.x.1 0 (by omega)
  have x1 : wc.cell? ⟨B + 1 + 1, 1, none⟩ = some (.string a5) := hP.x.1 1 (by omega)
  have y0 : wc.cell? ⟨B, 0, none⟩ = some (.string a0) := hP.s.1 0 (by omega)
  have y1 : wc.cell? ⟨B, 1, none⟩ = some (.string a1) := hP.s.1 1 (by omega)
  have n19 : wc.cell? ⟨N, 19, none⟩ = some (.slice sa len9 sc) := (hn.1 19 (by omega)).trans (by rw [c19])
  have hll : ((len9 : Int) != (len9 : Int)) = false := by simp
  conv => arg 2; whnf
  go_wp2_with fail
  go_loopw [202] (fun i wr => ∃ k : Nat, k ≤ len9 ∧ i = .int .i64 k ∧ Below wc.heap.size wc wr) (fun i _ => len9 - (intOf i).toNat)
  case atStart => exact ⟨0, by omega, rfl, Below.refl _ _⟩
  case round =>
    obtain ⟨k, hk, rfl, hB⟩ := hrel
    clear o2 x0 x1 y0 y1 n19
    by_cases hlt : k < len9
    · obtain ⟨b, off, rfl, hbl, hc⟩ := HZ.out k hlt
      obtain ⟨q, hq⟩ : ∃ q, q = z9.getD k 0 := ⟨_, rfl⟩
      have hBw : Below B w wr := hP.bel.trans (hB.mono (by have := hP.lt; omega))
      have hc2 : wr.cell? ⟨b, off + k, none⟩ = some (.int .u64 q) := by rw [hq]; exact (hBw.cell (by exact hbl)).trans hc
      have hk0 : (0 : Int) ≤ (k : Int) := by omega
      have hk7 : (k : Int) < (len9 : Int) := by omega
      rcases HC.out with ⟨h1, _⟩ | ⟨cap, h1, h2, h3, h4, h5⟩
      · omega
      · injection h1 with e1 e2 e3
        subst e1
        obtain ⟨d0, d1, d2, d3, d4⟩ := (h4 k hlt).below hB h3
        simp only [← hq] at d2
        have n19 : wr.cell? ⟨N, 19, none⟩ = some (.slice (some ⟨g0, 0, none⟩) len9 sc) := ((hn.below hB hNw).1 19 (by omega)).trans (by rw [c19])
        have hpc := peq_self ⟨#[99]⟩ ⟨#[]⟩
        clear hc hq h2 h3 h4 h5 e2 e3 HC hn hh hgr hmr
        go_wp2
        go_roundw
        case rel => exact ⟨k + 1, by omega, by go_num, hB.alloc hB.size _⟩
        case measure => simp [intOf]; omega
    · obtain rfl : k = len9 := by omega
      have hhr := hh.below hB hHw
      have hm2 := hmr.below hB hg2w
      have hrow := msg_rowL hm2
      have o0 : wr.cell? ⟨H, 0, none⟩ = some (.slice (some ⟨g, 0, none⟩) 1 cap) := hhr.1 0 (by omega)
      have o1 : wr.cell? ⟨H, 1, none⟩ = some (.slice (some ⟨g2, 0, none⟩) 1 cap2) := hhr.1 1 (by omega)
      have hBf : Below wc.heap.size wc (wr.alloc (.cells (msgA a0 a1 a4 a5 a7 a4 a8) 65)) := hB.alloc hB.size _
      have hm5 := msg_fresh wr a0 a1 a4 a5 a7 a4 a8 65
      have hbA := hn.below hBf hNw
      have hbH := hh.below hBf hHw
      have hbg := hgr.below hBf hgw
      have hbL := hL.below hBf hLw
      have hbl := hlg.below hBf hlgw
      have hP5 := hP.later hBf hP.lt
      go_upto_region 51 with fail
      obtain ⟨M, hM⟩ : ∃ M, M = wr.heap.size := ⟨_, rfl⟩
      rw [← hM] at hm5 ⊢
      generalize World.alloc _ (.cells (msgA a0 a1 a4 a5 a7 a4 a8) 65) = w5 at hBf hm5 hbA hbH hbg hP5 hbL hbl ⊢
      clear hM
      have m4 : w5.cell? ⟨M, 4, none⟩ = some (.string a0) := hm5.1 4 (by omega)
      have m5 : w5.cell? ⟨M, 5, none⟩ = some (.string a1) := hm5.1 5 (by omega)
      have m6 : w5.cell? ⟨M, 6, none⟩ = some (.string a4) := hm5.1 6 (by omega)
      have m7 : w5.cell? ⟨M, 7, none⟩ = some (.string a5) := hm5.1 7 (by omega)
      have m8 : w5.cell? ⟨M, 8, none⟩ = some (.int .u64 a7) := hm5.1 8 (by omega)
      have m9 : w5.cell? ⟨M, 9, none⟩ = some (.string a4) := hm5.1 9 (by omega)
      have m12 : w5.cell? ⟨M, 12, none⟩ = some (.int .i64 a8) := hm5.1 12 (by omega)
      have x0 : w5.cell? ⟨B + 1 + 1, 0, none⟩ = some (.string a4) := hP5.x.1 0 (by omega)
      have x1 : w5.cell? ⟨B + 1 + 1, 1, none⟩ = some (.string a5) := hP5.x.1 1 (by omega)
      have y0 : w5.cell? ⟨B, 0, none⟩ = some (.string a0) := hP5.s.1 0 (by omega)
      have y1 : w5.cell? ⟨B, 1, none⟩ = some (.string a1) := hP5.s.1 1 (by omega)
      have hp1 := peq_self a0 a1
      have hp2 := peq_self a4 a5
      have hp3 := peq_self a2 a3
      have hp4 := peq_self ⟨#[]⟩ ⟨#[]⟩
      have HF : Hid (Below w.heap.size w w5) := by rw [← HB.out]; exact hP5.bel
      clear hhr hm2 hrow o0 o1 hn hh hgr hmr hP hB HC
      go_wp2_with fail
      refine (zarc_any a0 a4 a2 _).mono ?_
      rintro e w6 ⟨rfl, hw6⟩
      rw [hw6, harc]
      clear hw6 m4 m5 m6 m7 m8 m9 m12 hm5
      have o0 : w5.cell? ⟨H, 0, none⟩ = some (.slice (some ⟨g, 0, none⟩) 1 cap) := hbH.1 0 (by omega)
      have q0 : w5.cell? ⟨g, 0, none⟩ = some (.string a4) := hbg.1 0 (by omega)
      have q1 : w5.cell? ⟨g, 1, none⟩ = some (.string a5) := hbg.1 1 (by omega)
      have n21 : w5.cell? ⟨N, 21, none⟩ = some (.slice (some ⟨N, 66, none⟩) 1 18) := (hbA.1 21 (by omega)).trans (by rw [c21])
      have n66 : w5.cell? ⟨N, 66, none⟩ = some (.string a4) := (hbA.1 66 (by omega)).trans (by rw [c66])
      have n67 : w5.cell? ⟨N, 67, none⟩ = some (.string a5) := (hbA.1 67 (by omega)).trans (by rw [c67])
      have n11 : w5.cell? ⟨N, 11, none⟩ = some (.pointer (some ⟨L, 0, none⟩)) := (hbA.1 11 (by omega)).trans (by rw [c11])
      have n12 : w5.cell? ⟨N, 12, none⟩ = some (.int .u64 1) := (hbA.1 12 (by omega)).trans (by rw [c12])
      have n5 : w5.cell? ⟨N, 5, none⟩ = some (.bool true) := (hbA.1 5 (by omega)).trans (by rw [c5])
      have n57 : w5.cell? ⟨N, 57, none⟩ = some (.int .i64 (minI 2 r)) := (hbA.1 57 (by omega)).trans (by rw [c57])
      have n43 : w5.cell? ⟨N, 43, none⟩ = some (.string ⟨#[]⟩) := (hbA.1 43 (by omega)).trans (by rw [c43])
      have n44 : w5.cell? ⟨N, 44, none⟩ = some (.string ⟨#[]⟩) := (hbA.1 44 (by omega)).trans (by rw [c44])
      have l0 : w5.cell? ⟨L, 0, none⟩ = some (.slice (some ⟨lg, 0, none⟩) 1 lcap) := hbL.1 0 (by omega)
      have l1 : w5.cell? ⟨L, 1, none⟩ = some (.slice none 0 0) := hbL.1 1 (by omega)
      have p0 : w5.cell? ⟨lg, 0, none⟩ = some (.string a4) := hbl.1 0 (by omega)
      have p1 : w5.cell? ⟨lg, 1, none⟩ = some (.string a5) := hbl.1 1 (by omega)
      clear hbA hbH hbg hP5 hbL hbl hL hlg c5 c11 c12 c19 c21 c43 c44 c57 c66 c67 hBf
      go_wp2_with fail
      go_quiet (fail)
      go_wp2_with fail
      go_quiet (fail)
      by_cases hr2 : r < 2
      · have hm : minI 2 r = r := by unfold minI; rw [if_neg (by omega)]
        rw [hm] at n57
        clear hm
        go_wp2
        go_ret
        exact ⟨rfl, ⟨HF.out.os, HF.out.tape, HF.out.output, HF.out.size, HF.out.block⟩⟩
      · have hm : minI 2 r = 2 := by unfold minI; split <;> omega
        rw [hm] at n57
        clear hm
        go_wp2
        go_ret
        exact ⟨rfl, ⟨HF.out.os, HF.out.tape, HF.out.output, HF.out.size, HF.out.block⟩⟩
end Go.Proofs.Ybulkbpca
