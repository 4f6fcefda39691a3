import Derived.Test.YbulkbpcaLawC
namespace Go.Proofs.Ybulkbpca
open Go.ChangeShapes Go.WideShapes Go.ChangeAt Go.RowKit
set_option linter.unusedVariables false
attribute [local go_sem ↓] Go.wp_at_zero Go.wp_at_succ
attribute [local go_sem ↓] eq_peer
attribute [local go_sem] guard_peer field_key msg_cells rowL_drew rowL_drewN rowL_alloc rowL_setCell load_msg
attribute [local go_sem ↓] load_msg0

set_option maxRecDepth 100000 in
set_option maxHeartbeats 4000000 in
/-- The law: it answers true. -/
theorem law_walk (a0 a1 a2 a3 a4 a5 : ByteArray) (a6 a7 a8 : Int) (a9 : Option Addr) (len9 cap9 : Nat) (z9 : List Int) (a10 : Int) (w : World) (hk0 : a0.size ≤ maxLen) (hk2 : a2.size ≤ maxLen) (hk4 : a4.size ≤ maxLen) (h6 : 0 ≤ a6) (h10 : 0 ≤ a10) (h10' : a10 ≤ 255)
    (hz : ArgAt w.heap.size w a9 len9 z9) (hl : len9 ≤ 1024) :
    Calls Yba.prog 3 #[.string a0, .string a1, .string a2, .string a3, .string a4, .string a5, .int .u8 a6, .int .u64 a7, .int .i64 a8, .slice a9 len9 cap9, .int .u8 a10] w fun e w' => e = .returned (.bool true) ∧ Below w.heap.size w w' := by
  obtain ⟨p, hp⟩ : ∃ p, p = a6.tmod 3 := ⟨_, rfl⟩
  have hp' : a6.tmod 3 = p := hp.symm
  have h3 := three_fresh w a0 a1 a2 a3 a4 a5
  have HZ : Hid (ArgAt w.heap.size w a9 len9 z9) := hz
  clear hp hz
  go_enter Yba.func3, Yba.ntmps3
  go_upto_if 55 with fail
  obtain ⟨B, hB⟩ : ∃ B, B = w.heap.size := ⟨_, rfl⟩
  rw [← hB] at h3 HZ ⊢
  generalize World.alloc _ (.cells #[.string a4, .string a5] 25) = w1 at h3 ⊢
  have HB : Hid (B = w.heap.size) := hB
  clear hB
  go_cut [] from 53 to 56 (fun wx => ∃ xk xa, XIs a0 a1 a4 a5 xk xa ∧ Three w B a0 a1 a2 a3 xk xa wx)
  case first =>
    cases hp0 : (p == 0)
    · go_wp2
      go_meet
      case rel => exact ⟨a4, a5, .inr ⟨rfl, rfl⟩, h3⟩
    · obtain ⟨t1, t2, t3, t4, t5⟩ := h3
      have c0 : w1.cell? ⟨B, 0, none⟩ = some (.string a0) := t1.1 0 (by omega)
      have c1 : w1.cell? ⟨B, 1, none⟩ = some (.string a1) := t1.1 1 (by omega)
      have d0 := t3.1 0 (by omega)
      have d1 := t3.1 1 (by omega)
      have f0 := t3.2 0
      have f1 := t3.2 1
      have HF : Hid (Three w B a0 a1 a2 a3 a0 a1 ((w1.setCell ⟨B + 1 + 1, 0, none⟩ (.string a0)).setCell ⟨B + 1 + 1, 1, none⟩ (.string a1))) :=
        ⟨(t1.setOther _ (by simp; omega) _).setOther _ (by simp; omega) _, (t2.setOther _ (by simp) _).setOther _ (by simp) _, ((t3.set 0 (by omega) _).set 1 (by omega) _).congr (fun j hj => by rcases (show j = 0 ∨ j = 1 by omega) with rfl | rfl <;> rfl), (t4.setCell (by simp; omega) _).setCell (by simp; omega) _, by simp; omega⟩
      clear t1 t2 t3 t4 t5
      go_wp2
      go_meet
      case rel => exact ⟨a0, a1, .inl ⟨rfl, rfl⟩, HF.out⟩
  case rest =>
    obtain ⟨xk, xa, hx, t1, t2, t3, t4, t5⟩ := hcut
    clear h3 hp'
    obtain ⟨r, hr⟩ : ∃ r, r = a10 % 5 + 1 := ⟨_, rfl⟩
    have hr1 : 1 ≤ r := by omega
    have hr5 : r ≤ 5 := by omega
    have hHs : wc.heap.size = B + 1 + 1 + 1 := t5
    have hBw : B < wc.heap.size := by omega
    have q0 := Blk.fresh wc #[.slice none 0 0, .slice none 0 0, .int .i64 0] 30
    have q0' : Blk (wc.alloc (.cells #[.slice none 0 0, .slice none 0 0, .int .i64 0] 30)) wc.heap.size 3 hostNone := q0.congr (fun j hj => by rcases (show j = 0 ∨ j = 1 ∨ j = 2 by simp at hj; omega) with rfl | rfl | rfl <;> rfl)
    have q1 := t1.alloc (by omega) (.cells #[.slice none 0 0, .slice none 0 0, .int .i64 0] 30)
    have q2 := t2.alloc (by omega) (.cells #[.slice none 0 0, .slice none 0 0, .int .i64 0] 30)
    have q3 := t3.alloc (by omega) (.cells #[.slice none 0 0, .slice none 0 0, .int .i64 0] 30)
    have q4 := t4.alloc (by omega) (.cells #[.slice none 0 0, .slice none 0 0, .int .i64 0] 30)
    have q5 : (wc.alloc (.cells #[.slice none 0 0, .slice none 0 0, .int .i64 0] 30)).heap.size = wc.heap.size + 1 := by simp
    have hHs' : Hid (wc.heap.size = B + 1 + 1 + 1) := t5
    clear t1 t2 t3 t4 t5 q0 hHs
    have HR : Hid (r = a10 % 5 + 1) := hr
    clear hr
    go_upto_region 10 with fail
    rw [← HR.out]
    obtain ⟨H, hH⟩ : ∃ H, H = wc.heap.size := ⟨_, rfl⟩
    rw [← hH] at q0' q5 hBw ⊢
    generalize World.alloc _ (.cells #[.slice none 0 0, .slice none 0 0, .int .i64 0] 30) = w2 at q0' q1 q2 q3 q4 q5 ⊢
    have HH : Hid (H = B + 1 + 1 + 1) := by rw [hH]; exact hHs'.out
    clear hH
    have c0 : w2.cell? ⟨B, 0, none⟩ = some (.string a0) := q1.1 0 (by omega)
    have c1 : w2.cell? ⟨B, 1, none⟩ = some (.string a1) := q1.1 1 (by omega)
    go_wp2_with fail
    refine (new_at a0 a1 ⟨H, 0, none⟩ 26 r w2).mono ?_
    rintro e w3 ⟨N, rfl, hn, hb3, hN1, hN2⟩
    have hL : Lw w B H N a0 a1 a2 a3 xk xa (newC a0 a1 ⟨H, 0, none⟩ 26 r N 3) w3 := by
      have := HH.out
      exact ⟨q1.below hb3 (by omega), q2.below hb3 (by omega), q3.below hb3 (by omega), q0'.below hb3 (by omega), hn, q4.trans (hb3.mono (by omega)), by omega, by omega, hN2⟩
    have hBN : B < w3.heap.size := by omega
    clear q0' q1 q2 q3 q4 q5 c0 c1 hn hb3 hN1 HH HR
    go_upto_region 11 with fail
    have e0 : w3.cell? ⟨B + 1, 0, none⟩ = some (.string a2) := hL.q.1 0 (by omega)
    have e1 : w3.cell? ⟨B + 1, 1, none⟩ = some (.string a3) := hL.q.1 1 (by omega)
    go_cut [] from 57 to 73 (fun wx => ∃ c, NodeOk c N H r a0 a1 a2 a3 ∧ Lw w B H N a0 a1 a2 a3 xk xa c wx)
    case first =>
      go_region_with (go_at_call 5; refine (tlink_any N (newC a0 a1 ⟨H, 0, none⟩ 26 r N 3) a2 a3 hk2 _ (by exact hL.n.drew) (by exact hL.lt) (newC_pre _ _ _ _ _ _)).mono ?_; rintro e w4 ⟨rfl, hs4⟩; have HF : Hid (SetPost N (newC a0 a1 ⟨H, 0, none⟩ 26 r N 3) a2 a3 w3.drew w4) := hs4; clear hs4)
      all_goals
        go_wp2
        go_meet
        case rel =>
          obtain ⟨c', g1, g2, g3, g21, g22, g23, g66, g67, o, g28, g68⟩ := HF.out
          exact ⟨c', newC_ok N H r a0 a1 a2 a3 c' hr1 hr5 g3 g21 g22 g23 g66 g67 ⟨o, g28⟩ g68, hL.drew.node g2 g1⟩
    case rest =>
      obtain ⟨c, hok, hLc⟩ := hcut
      clear hL e0 e1 hBN hN2
      rename_i hK
      exact hK _ _ (tail1 a0 a1 a2 a3 a4 a5 a6 a7 a8 a9 len9 cap9 z9 a10 w hk4 hk0 hl B H N HB HZ xk xa hx r c hok _ hLc _ _ _ _ _ _ _ _ _ _ _ _ _ _ _ _ _ _ _ _ _ _ _ _ _ _ _ _ _ _ _ _ _)
end Go.Proofs.Ybulkbpca
