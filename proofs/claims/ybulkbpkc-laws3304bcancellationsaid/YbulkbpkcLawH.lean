import Derived.Test.YbulkbpkcLawM
namespace Go.Proofs.Ybulkbpkc
open Go.ChangeShapes Go.WideShapes Go.ChangeAt Go.RowKit
set_option linter.unusedVariables false

set_option maxRecDepth 1000000 in
set_option maxHeartbeats 4000000 in
theorem law_head (a0 a1 a2 a3 : Int) (a4 : Option Addr) (len4 cap4 : Nat) (z4 : List Int) (a5 : Option Addr) (len5 cap5 : Nat) (z5 : List Int) (a6 : Option Addr) (len6 cap6 : Nat) (z6 : List Int) (a7 : Bool) (w : World)
    (hz4 : ArgAt w.heap.size w a4 len4 z4) (hb4 : ∀ j : Nat, 0 ≤ z4[j]?.getD 0 ∧ z4[j]?.getD 0 ≤ 255) (hl4 : len4 ≤ 1024)
    (hz5 : ArgAt w.heap.size w a5 len5 z5) (hb5 : ∀ j : Nat, 0 ≤ z5[j]?.getD 0 ∧ z5[j]?.getD 0 ≤ 255) (hl5 : len5 ≤ 1024) (hc5 : len5 ≤ cap5)
    (hz6 : ArgAt w.heap.size w a6 len6 z6) (hb6 : ∀ j : Nat, 0 ≤ z6[j]?.getD 0 ∧ z6[j]?.getD 0 ≤ 255) (hl6 : len6 ≤ 1024) (h3 : 0 ≤ a3 ∧ a3 ≤ 255) :
    Calls Yba.prog 3 #[.int .u16 a0, .int .u16 a1, .int .u16 a2, .int .u8 a3, .slice a4 len4 cap4, .slice a5 len5 cap5, .slice a6 len6 cap6, .bool a7] w fun e w' => e = .returned (.bool true) ∧ Below w.heap.size w w' := by
  have hd0 : decide ((1024 : Int) < (len4 : Int)) = false := decide_eq_false (by omega)
  have hd1 : decide ((1024 : Int) < (len5 : Int)) = false := decide_eq_false (by omega)
  have hd2 : decide ((1024 : Int) < (len6 : Int)) = false := decide_eq_false (by omega)
  have hmm := @run_makeMap Yba.prog
  go_enter Yba.func3, Yba.ntmps3
  go_wp2_with fail
  have hM0 : MSt w w.heap.size (w.heap.size + 1) a2 (.slice none 0 0) [] ((w.alloc (.map #[] 0)).alloc (.cells #[.int .u8 0, .slice none 0 0, .map none, .slice none 0 0, .int .u8 0, .int .u16 a2, .slice none 0 0, .slice none 0 0, .pointer none, .pointer none, .map (some w.heap.size), .map none, .chan none, .int .u32 0, .int .i32 0, .int .u32 0, .int .u64 0, .int .i64 0, .pointer none, .int .i32 0, .int .u32 0, .map none, .map none] 56)) := by
    have hb := Blk.fresh (w.alloc (.map #[] 0)) #[.int .u8 0, .slice none 0 0, .map none, .slice none 0 0, .int .u8 0, .int .u16 a2, .slice none 0 0, .slice none 0 0, .pointer none, .pointer none, .map (some w.heap.size), .map none, .chan none, .int .u32 0, .int .i32 0, .int .u32 0, .int .u64 0, .int .i64 0, .pointer none, .int .i32 0, .int .u32 0, .map none, .map none] 56
    rw [World.size_alloc] at hb
    exact ⟨⟨_, hb, rfl, rfl, rfl⟩, World.ownsRow_nil _ _ _ _, ((Below.refl _ _).alloc (Nat.le_refl _) _).alloc (by simp) _, ⟨Nat.le_refl _, by omega, by simp⟩⟩
  have hA0 : MapAt K16 ((w.alloc (.map #[] 0)).alloc (.cells #[.int .u8 0, .slice none 0 0, .map none, .slice none 0 0, .int .u8 0, .int .u16 a2, .slice none 0 0, .slice none 0 0, .pointer none, .pointer none, .map (some w.heap.size), .map none, .chan none, .int .u32 0, .int .i32 0, .int .u32 0, .int .u64 0, .int .i64 0, .pointer none, .int .i32 0, .int .u32 0, .map none, .map none] 56)) w.heap.size [] := by
    unfold MapAt
    rw [Below.heap_alloc _ _ _ (by simp)]
    exact heap_alloc_new w _
  obtain ⟨R1, hR1⟩ : ∃ R1, R1 = w.heap.size := ⟨_, rfl⟩
  obtain ⟨N, hNe⟩ : ∃ N, N = R1 + 1 := ⟨_, rfl⟩
  rw [← hR1] at hM0 hA0
  rw [← hR1]
  rw [← hNe] at hM0
  rw [← hNe]
  have HR1 : Hid (R1 = w.heap.size) := hR1
  have HN : Hid (N = R1 + 1) := hNe
  generalize World.alloc _ _ = w1 at hM0 hA0 ⊢
  clear hR1 hNe hmm
  obtain ⟨nE, hnE⟩ : ∃ nE : Nat, a3 % 4 = nE := ⟨(a3 % 4).toNat, by omega⟩
  have hnE4 : nE < 4 := by omega
  obtain ⟨i0, hi, hz0, hz1, hz2⟩ := info_parts Yba.infoB
  go_loopw [18] (fun i wr => ∃ (k : Nat) (VE : Value), k ≤ nE ∧ i = .int .i64 k ∧ MSt w R1 N a2 VE (upto k) wr ∧ MapAt K16 wr R1 []) (fun i _ => nE - (intOf i).toNat)
  case atStart => exact ⟨0, _, by omega, rfl, hM0, hA0⟩
  case round =>
    clear hM0 hA0
    obtain ⟨k, VE, hk, rfl, hM, hA⟩ := hrel
    by_cases hlt : k < nE
    · have n6 : wr.cell? ⟨N, 6, none⟩ = some VE := by
        obtain ⟨c, q1, q5, q6, q10⟩ := hM.n
        exact (q1.1 6 (by omega)).trans (by rw [q6])
      have hki : (k : Int) < (nE : Int) := by omega
      have hk0 : (0 : Int) ≤ (k : Int) := by omega
      have hwk : IntKind.u32.wrap (k : Int) = k := IntWalk.u32_in _ ⟨by omega, by omega⟩
      have HM : Hid (MSt w R1 N a2 VE (upto k) wr) := hM
      have HA : Hid (MapAt K16 wr R1 []) := hA
      have hNl : N < wr.heap.size := hM.ord.2.2
      clear hM hA
      go_wp2_with fail
      go_region_law ((first
        | (refine step_append_lies _ (by rfl) _ _ 31 (by rfl) (N + 1) 61 i0 _ 4 40 Yba.underlying31 hi hz0 hz1 hz2 rfl (by omega) VE (upto k).length ((upto k).flatMap cB) (by rfl) ((HMX.out.row.alloc _)) ⟨wx.heap.size, 0, none⟩ 1 1 (cB k) (by rfl) (by rfl) (World.news_of_block (cs := #[.string s1, .string s2, .int .u32 k, .bool false]) (t := 61) (fr := (0, 0)) (heap_alloc_new wx _)) (by simp [cB, Value.oneCell']) (by omega) (by rw [upto_len]; unfold maxLen; omega) (by rw [upto_len]; omega) (by simp; have := HMX.out.ord; omega) (wx.heap.size + 1) (by simp) ?_; intro g' cap' w3 hown hgrow hgb hgl'; have HF : Hid _ := enb_step HMX.out HAX.out hown hgrow; have e6 := HF.out.1; have e6f := HF.out.2.1; clear hown hgrow hgb hgl')
        | (go_simp; go_at_call 4; refine (plmn_any _).mono ?_; rintro e wx ⟨rfl, hBx⟩; have HMX : Hid (MSt w R1 N a2 VE (upto k) wx) := HM.out.drew.later hBx; have HAX : Hid (MapAt K16 wx R1 []) := (show MapAt K16 wr.drew R1 [] from HA.out).later hBx; have n6x : wx.cell? ⟨N, 6, none⟩ = some VE := (by obtain ⟨c, q1, q5, q6, q10⟩ := HMX.out.n; exact (q1.1 6 (by omega)).trans (by rw [q6])); have hNx : N < wx.heap.size := HMX.out.ord.2.2; clear hBx)))
      all_goals
        have HG : Hid (MSt w R1 N a2 (.slice (some ⟨g', 0, none⟩) ((upto k).length + 1) cap') (upto (k + 1)) (w3.setCell ⟨N, 6, none⟩ (.slice (some ⟨g', 0, none⟩) ((upto k).length + 1) cap')) ∧ MapAt K16 (w3.setCell ⟨N, 6, none⟩ (.slice (some ⟨g', 0, none⟩) ((upto k).length + 1) cap')) R1 []) := by
          rw [upto_succ]; exact HF.out.2.2
        clear HF e6 e6f
        go_wp2
        go_roundw
        case rel => exact ⟨k + 1, _, by omega, by go_num, HG.out⟩
        case measure => simp [intOf]; omega
    · obtain rfl : k = nE := by omega
      obtain ⟨w2, rfl⟩ : ∃ w2, w2 = wr := ⟨_, rfl⟩
      have hS0 : AreaSt R1 (N + 1) (fun _ => .slice none 0 0) [] (areaL z4 0) w2 := ⟨hA, by simp, fun t => World.ownsRow_nil _ _ _ _, fun t _ => rfl, fun t t' _ => .inl rfl, by have := hM.ord; omega⟩
      have HVE : Hid (w2.ownsRow (N + 1) 61 4 VE (upto k).length ((upto k).flatMap cB)) := hM.row
      have hkk : ¬ ((k : Int) < (k : Int)) := by omega
      have hnk : a3 % 4 = (k : Int) := hnE
      obtain ⟨j0, hj, hy0, hy1, hy2⟩ := info_parts Yba.infoE
      go_wp2_with fail
      clear hi hz0 hz1 hz2 hnE hk
      go_loopw [83] (fun i wr => ∃ (n : Nat) (V : Int → Value) (ts : List Int), n ≤ len4 ∧ i = .int .i64 n ∧ MSt w R1 N a2 VE (upto k) wr ∧ AreaSt R1 (N + 1) V ts (areaL z4 n) wr) (fun i _ => len4 - (intOf i).toNat)
      case atStart => exact ⟨0, _, _, by omega, rfl, hM, hS0⟩
      case round =>
        clear hM hS0 hA
        obtain ⟨n, V, ts, hn, rfl, hM, hS⟩ := hrel
        by_cases hlt2 : n < len4
        · obtain ⟨b, off, rfl, hbl, hc⟩ := hz4 n hlt2
          obtain ⟨q, hq⟩ : ∃ q, q = z4.getD n 0 := ⟨_, rfl⟩
          have hq0 : 0 ≤ q := by rw [hq]; simpa using (hb4 n).1
          have hq1 : q ≤ 255 := by rw [hq]; simpa using (hb4 n).2
          have hc2 : wr.cell? ⟨b, off + n, none⟩ = some (.int .u8 q) := by rw [hq]; exact (hM.low.cell (by exact hbl)).trans hc
          have HQ : Hid (q = z4.getD n 0) := hq
          have hn0 : (0 : Int) ≤ (n : Int) := by omega
          have hn7 : (n : Int) < (len4 : Int) := by omega
          clear hc hq
          go_wp2_with fail
          refine (tai_any (q / 16) (by omega) (by omega) wr).mono ?_
          rintro e w3 ⟨rfl, hB3⟩
          have hM3 := hM.later hB3
          have hS3 := hS.later hB3
          clear hM hS hc2
          go_wp2_with fail
          obtain ⟨t, ht⟩ : ∃ t, t = q / 16 % 4 := ⟨_, rfl⟩
          rw [← ht]
          have HT : Hid (t = q / 16 % 4) := ht
          clear ht
          have hQb := Blk.fresh w3 #[.string s1, .string s2, .int .u16 t] 63
          have hB4 : Below w3.heap.size w3 (w3.alloc (.cells #[.string s1, .string s2, .int .u16 t] 63)) := (Below.refl _ _).alloc (Nat.le_refl _) _
          have hM4 := hM3.later hB4
          have hS4 := hS3.later hB4
          have hQl : w3.heap.size < (w3.alloc (.cells #[.string s1, .string s2, .int .u16 t] 63)).heap.size := by simp
          obtain ⟨Q, hQe⟩ : ∃ Q, Q = w3.heap.size := ⟨_, rfl⟩
          rw [← hQe] at hQb hQl
          rw [← hQe]
          have hNQ : N < Q := by have := hM3.ord; omega
          generalize World.alloc w3 _ = w4 at hQb hM4 hS4 hQl ⊢
          clear hQe hB4 hB3 hM3 hS3
          have p0 : w4.cell? ⟨Q, 0, none⟩ = some (.string s1) := hQb.1 0 (by simp)
          have p1 : w4.cell? ⟨Q, 1, none⟩ = some (.string s2) := hQb.1 1 (by simp)
          have p2 : w4.cell? ⟨Q, 2, none⟩ = some (.int .u16 t) := hQb.1 2 (by simp)
          have n10 : w4.cell? ⟨N, 10, none⟩ = some (.map (some R1)) := by
            obtain ⟨c, m1, m5, m6, m10⟩ := hM4.n
            exact (m1.1 10 (by omega)).trans (by rw [m10])
          have HM4 : Hid (MSt w R1 N a2 VE (upto k) w4) := hM4
          have HS4 : Hid (AreaSt R1 (N + 1) V ts (areaL z4 n) w4) := hS4
          have hal : (areaL z4 n t).length ≤ 1024 := Nat.le_trans (areaL_len _ _ _) (by omega)
          have hNQ2 : Q ≠ N := by omega
          clear hM4 hS4 hQb
          go_region_law ((first
            | (go_simp; go_at_call 6; refine (cell_any q hq0 hq1 _).mono ?_; rintro e wx ⟨rfl, hBx⟩; have HMX : Hid (MSt w R1 N a2 VE (upto k) wx) := HM4.out.drew.later hBx; have hSX := (HS4.out.later (w' := w4.drew) ⟨rfl, rfl, rfl, Nat.le_refl _, fun _ _ => rfl⟩).later hBx; have hSY := hSX.later (w' := wx.alloc (.cells #[.string s1, .string s2, .int .u32 (q % 8)] 68)) ((Below.refl _ _).alloc (Nat.le_refl _) _); obtain ⟨ts', j, w6, hjj, hme, hS6, hK6, hs6⟩ := area_entry hSY t; have hme2 : Sem.run Yba.prog (Instr.mapEntry 25 (.map (some R1)) (.agg #[.string s1, .string s2, .int .u16 t])) (wx.alloc (.cells #[.string s1, .string s2, .int .u32 (q % 8)] 68)) = .ok (.tuple #[V t, .int .i64 j]) w6 := hme; have HS6 : Hid (AreaSt R1 (N + 1) V ts' (areaL z4 n) w6) := hS6; have HJ : Hid (ts'[j]? = some t) := hjj; have HK6 : Hid (Kp (fun k => k = R1) (wx.alloc (.cells #[.string s1, .string s2, .int .u32 (q % 8)] 68)) w6) := hK6; have HSZ : Hid (w6.heap.size = wx.heap.size + 1) := (show w6.heap.size = wx.heap.size + 1 from hs6.trans (World.size_alloc _ _)); have hNx : N < wx.heap.size := HMX.out.ord.2.2; have p0x : wx.cell? ⟨Q, 0, none⟩ = some (.string s1) := (hBx.cell (p := ⟨Q, 0, none⟩) hQl).trans p0; have p1x : wx.cell? ⟨Q, 1, none⟩ = some (.string s2) := (hBx.cell (p := ⟨Q, 1, none⟩) hQl).trans p1; have p2x : wx.cell? ⟨Q, 2, none⟩ = some (.int .u16 t) := (hBx.cell (p := ⟨Q, 2, none⟩) hQl).trans p2; have n10x : wx.cell? ⟨N, 10, none⟩ = some (.map (some R1)) := (by obtain ⟨c, m1, m5, m6, m10⟩ := HMX.out.n; exact (m1.1 10 (by omega)).trans (by rw [m10])); have hQx : Q < wx.heap.size := Nat.lt_of_lt_of_le hQl hBx.size; clear hBx hSX hSY hme hS6 hjj hK6 hs6)
            | (refine step_append_lies _ (by rfl) _ _ 66 (by rfl) (N + 1) 68 j0 _ 3 40 Yba.underlying66 hj hy0 hy1 hy2 rfl (by omega) (V t) (areaL z4 n t).length ((areaL z4 n t).flatMap cE) (by rfl) (HS6.out.row t) ⟨wx.heap.size, 0, none⟩ 1 1 (cE (q % 8)) (by rfl) (by rfl) (World.news_of_block (cs := #[.string s1, .string s2, .int .u32 (q % 8)]) (t := 68) (fr := (0, 0)) ((HK6.out.block wx.heap.size (by simp) (by have := HMX.out.ord; omega)).trans (heap_alloc_new wx _))) (by simp [cE, Value.oneCell']) (by omega) (by unfold maxLen; omega) (by omega) (by rw [HSZ.out]; omega) w6.heap.size rfl ?_; intro g' cap' w7 hown hgrow hgb hgl'; obtain ⟨w8, hse, hS8, hK8, hs8⟩ := area_step HS6.out HJ.out (by rw [HSZ.out]; omega) hown hgrow hgb; have HM8 : Hid (MSt w R1 N a2 VE (upto k) w8) := mst_area HMX.out HK6.out (HS6.out.row t) hgrow hK8; have HS8 : Hid (AreaSt R1 (N + 1) (updI V t (.slice (some ⟨g', 0, none⟩) ((areaL z4 n t).length + 1) cap')) ts' (updI (areaL z4 n) t (areaL z4 n t ++ [q % 8])) w8) := hS8; clear hown hgrow hgb hgl' hS8 hK8 hs8)))
          all_goals
            have HS9 : Hid (AreaSt R1 (N + 1) (updI V t (.slice (some ⟨g', 0, none⟩) ((areaL z4 n t).length + 1) cap')) ts' (areaL z4 (n + 1)) w8) := by
              rw [areaL_step z4 n, ← HQ.out, ← HT.out]; exact HS8.out
            clear HS8
            go_wp2
            go_roundw
            case rel => exact ⟨n + 1, _, _, by omega, by go_num, HM8.out, HS9.out⟩
            case measure => simp [intOf]; omega
        · obtain rfl : n = len4 := by omega
          have HF : Hid (MSt w R1 N a2 VE (upto k) wr ∧ AreaSt R1 (N + 1) V ts (areaL z4 n) wr) := ⟨hM, hS⟩
          clear hM hS
          go_upto_region 14 with fail
          go_cut [22] from 22 to 22 (fun v wx => v = .pointer none ∧ wx = wr)
          case first =>
            go_wp2_with fail
            go_meet
            case rel => exact ⟨rfl, rfl⟩
          case rest =>
            obtain ⟨rfl, hwz⟩ := hcut
            have HF2 : Hid (MSt w R1 N a2 VE (upto k) wc ∧ AreaSt R1 (N + 1) V ts (areaL z4 n) wc) := by rw [hwz]; exact HF.out
            clear hwz
            rename_i hK
            exact hK _ _ (law_mid a0 a1 a2 a3 a4 n cap4 z4 a5 len5 cap5 z5 a6 len6 cap6 z6 a7 w hz4 hb4 hl4 hz5 hb5 hl5 hc5 hz6 hb6 hl6 h3 R1 N k hnk VE V ts wc HF2.out.1 HF2.out.2 _ _ _ _ _ _ _ _ _ _ _ _ _ _ _ _ _ _ _ _ _ _ _ _ _ _ _ _ _ _ _ _ _ _ _ _ _ _ _ _ _ _ _ _ _ _ _ _ _ _ _ _ _ _ _ _ _ _ _ _ _ _)
end Go.Proofs.Ybulkbpkc
