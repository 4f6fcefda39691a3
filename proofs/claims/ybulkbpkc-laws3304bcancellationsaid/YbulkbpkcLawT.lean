import Derived.Test.YbulkbpkcLawE
namespace Go.Proofs.Ybulkbpkc
open Go.ChangeShapes Go.WideShapes Go.ChangeAt Go.RowKit
set_option linter.unusedVariables false

/-- The set of cells that is handed on, or none. -/
def CsSt (X : Value) (F : List Int) (wr : World) : Prop :=
  X = .pointer none ∨ ∃ R2 S VL b, X = .pointer (some ⟨S, 0, none⟩) ∧ Blk wr S 2 (setC VL R2) ∧ wr.ownsRow b 68 3 VL F.length (F.flatMap cE) ∧ MapAt K32 wr R2 (F.map fun e => (e, .bool true))

theorem CsSt.later {X : Value} {F : List Int} {wr w' : World} (h : CsSt X F wr) (hb : Below wr.heap.size wr w') : CsSt X F w' := by
  rcases h with h | ⟨R2, S, VL, b, h1, h2, h3, h4⟩
  · exact .inl h
  · exact .inr ⟨R2, S, VL, b, h1, h2.below hb (h2.lt (by omega)), owns_later h3 hb, h4.later hb⟩

theorem taisL_len (z : List Int) (n : Nat) : (taisL z n).length = n := by simp [taisL]
theorem taisL_succ (z : List Int) (n : Nat) : taisL z (n + 1) = taisL z n ++ [z.getD n 0 % 4] := by simp [taisL, List.range_succ]

set_option maxRecDepth 1000000 in
set_option maxHeartbeats 4000000 in
/-- The law from its list of areas on. -/
theorem law_tais (a0 a1 a2 a3 : Int) (a4 : Option Addr) (len4 cap4 : Nat) (z4 : List Int) (a5 : Option Addr) (len5 cap5 : Nat) (z5 : List Int) (a6 : Option Addr) (len6 cap6 : Nat) (z6 : List Int) (w : World) (hz4 : ArgAt w.heap.size w a4 len4 z4) (hb4 : ∀ j : Nat, 0 ≤ z4[j]?.getD 0 ∧ z4[j]?.getD 0 ≤ 255) (hl4 : len4 ≤ 1024) (hz5 : ArgAt w.heap.size w a5 len5 z5) (hb5 : ∀ j : Nat, 0 ≤ z5[j]?.getD 0 ∧ z5[j]?.getD 0 ≤ 255) (hl5 : len5 ≤ 1024) (hc5 : len5 ≤ cap5) (hz6 : ArgAt w.heap.size w a6 len6 z6) (hb6 : ∀ j : Nat, 0 ≤ z6[j]?.getD 0 ∧ z6[j]?.getD 0 ≤ 255) (hl6 : len6 ≤ 1024) (h3 : 0 ≤ a3 ∧ a3 ≤ 255)
    (R1 N nE : Nat) (hnE : a3 % 4 = nE) (VE : Value) (V : Int → Value) (ts : List Int) (X : Value) (wz : World) (hM : MSt w R1 N a2 VE (upto nE) wz) (hS : AreaSt R1 (N + 1) V ts (areaL z4 len4) wz) (hC : CsSt X (firsts z5 len5) wz)
    (j7 j8 j9 j10 j11 j12 j13 j14 j15 j18 j19 j20 j21 j23 j24 j25 j44 j45 j46 j47 j48 j49 j50 j51 j52 j53 j54 j55 j56 j57 j58 j59 j60 j61 j62 j63 j64 j65 j66 j67 j68 j69 j70 j71 j72 j73 j74 j75 j76 j77 j78 j79 j80 j81 j82 j83 j84 j85 j86 j87 j88 j89 j90 j91 j92 j93 j94 j95 j96 j97 j98 j99 j100 j101 j102 j103 j104 j105 j106 j107 j108 j109 j110 j111 j112 j113 j114 j115 j116 j117 j118 j119 j120 j121 j122 j123 j124 j125 j126 j127 j128 j129 j130 j131 j132 j133 j134 j135 j136 j137 j138 : Value) :
    Code.wp Yba.prog ((Yba.f3.body.bind (afterRegion 25)).getD .skip) (bodyPost Yba.prog Yba.f3 fun e w' => e = .returned (.bool true) ∧ Below w.heap.size w w')
      ⟨#[.int .u16 a0, .int .u16 a1, .int .u16 a2, .int .u8 a3, .slice a4 len4 cap4, .slice a5 len5 cap5, .slice a6 len6 cap6, j7, j8, j9, j10, j11, j12, j13, j14, j15, .bool false, .pointer (some ⟨N, 0, none⟩), j18, j19, j20, j21, X, j23, j24, j25, .slice none 0 0, undef, undef, undef, undef, undef, undef, undef, undef, undef, undef, undef, undef, undef, undef, undef, undef, undef, j44, j45, j46, j47, j48, j49, j50, j51, j52, j53, j54, j55, j56, j57, j58, j59, j60, j61, j62, j63, j64, j65, j66, j67, j68, j69, j70, j71, j72, j73, j74, j75, j76, j77, j78, j79, j80, j81, j82, j83, j84, j85, j86, j87, j88, j89, j90, j91, j92, j93, j94, j95, j96, j97, j98, j99, j100, j101, j102, j103, j104, j105, j106, j107, j108, j109, j110, j111, j112, j113, j114, j115, j116, j117, j118, j119, j120, j121, j122, j123, j124, j125, j126, j127, j128, j129, j130, j131, j132, j133, j134, j135, j136, j137, j138, undef, undef, undef, undef, undef, undef, undef, undef, undef, undef, undef, undef, undef, undef, undef, undef, undef, undef, undef, undef, undef, undef, undef, undef, undef, undef, undef, undef, undef, undef, undef, undef, undef, undef, undef, undef, undef, undef, undef, undef, undef, undef, undef, undef, undef, undef, undef, undef, undef, undef, undef, undef, undef, undef, undef, undef, undef, undef, undef, undef, undef, undef, undef, undef, undef, undef, undef, undef, undef, undef, undef, undef, undef, undef, undef, undef, undef, undef, undef, undef, undef, undef, undef, undef, undef, undef, undef, undef, undef, undef, undef, undef, undef, undef, undef, undef, undef, undef, undef, undef, undef, undef, undef, undef, undef, undef, undef, undef, undef, undef, undef, undef, undef, undef, undef, undef, undef, undef, undef, undef, undef, undef, undef, undef, undef, undef, undef, undef, undef, undef, undef, undef, undef, undef, undef, undef, undef, undef, undef, undef, undef, undef, undef, undef, undef, undef, undef, undef, undef, undef, undef, undef, undef, undef, undef, undef, undef, undef, undef, undef, undef, undef, undef, undef, undef, undef, undef, undef, undef, undef, undef, undef, undef, undef, undef, undef, undef, undef, undef, undef, undef, undef, undef, undef, undef, undef, undef, undef, undef, undef, undef, undef, undef, undef, undef, undef, undef, undef, undef, undef, undef, undef, undef, undef, undef, undef, undef, undef, undef, undef, undef, undef, undef, undef, undef, undef, undef, undef, undef, undef, undef, undef, undef, undef, undef, undef, undef, undef, undef, undef, undef, undef, undef, undef, undef, undef, undef, undef, undef, undef], []⟩ wz := by
  obtain ⟨i0, hi, hz0, hz1, hz2⟩ := info_parts Yba.infoT
  conv => arg 2; whnf
  go_wp2_with fail
  go_loopw [26, 141] (fun VT i wr => ∃ (k : Nat), k ≤ len6 ∧ i = .int .i64 k ∧ wr.ownsRow wz.heap.size 63 3 VT (taisL z6 k).length ((taisL z6 k).flatMap cT) ∧ Below wz.heap.size wz wr) (fun _ i _ => len6 - (intOf i).toNat)
  case atStart => exact ⟨0, by omega, rfl, World.ownsRow_nil _ _ _ _, Below.refl _ _⟩
  case round =>
    obtain ⟨k, hk, rfl, hrow, hB⟩ := hrel
    by_cases hlt : k < len6
    · obtain ⟨b, off, rfl, hbl, hc⟩ := hz6 k hlt
      obtain ⟨q, hq⟩ : ∃ q, q = z6.getD k 0 := ⟨_, rfl⟩
      have hq0 : 0 ≤ q := by rw [hq]; simpa using (hb6 k).1
      have hq1 : q ≤ 255 := by rw [hq]; simpa using (hb6 k).2
      have hlow : Below w.heap.size w wr := hM.low.trans (hB.mono hM.low.size)
      have hc2 : wr.cell? ⟨b, off + k, none⟩ = some (.int .u8 q) := by rw [hq]; exact (hlow.cell (by exact hbl)).trans hc
      have HQ : Hid (q = z6.getD k 0) := hq
      have hk0 : (0 : Int) ≤ (k : Int) := by omega
      have hk7 : (k : Int) < (len6 : Int) := by omega
      clear hc hq hlow
      go_wp2_with fail
      refine (tai_any q hq0 hq1 wr).mono ?_
      rintro e w3 ⟨rfl, hB3⟩
      have hrow3 := owns_later hrow hB3
      have hB4 : Below wz.heap.size wz w3 := hB.trans (hB3.mono hB.size)
      have htl : (taisL z6 k).length ≤ 1024 := by rw [taisL_len]; omega
      clear hrow hB hc2 hB3
      go_wp2_with (first
        | (at_builtin; refine wpList_append_lies _ rfl _ _ 74 rfl wz.heap.size 63 i0 _ 3 40 Yba.underlying74 hi hz0 hz1 hz2 rfl (by decide) u26 (taisL z6 k).length ((taisL z6 k).flatMap cT) rfl (hrow3.alloc _) ⟨w3.heap.size, 0, none⟩ 1 1 (cT (q % 4)) rfl rfl (World.news_of_block (cs := #[.string s1, .string s2, .int .u16 (q % 4)]) (t := 63) (fr := (0, 0)) (heap_alloc_new w3 _)) (by simp [cT, Value.oneCell']) (by omega) (by unfold maxLen; omega) (by omega) (by have := hB4.size; simp; omega) (w3.heap.size + 1) (by simp) ?_)
        | go_in)
      intro g cap w5 hown hgrow hgb hgl
      have hB5 : Below wz.heap.size w3 w5 := ((Below.refl _ w3).alloc hB4.size _).trans ((Below.refl _ _).grown hgrow (by have := hB4.size; simp; omega) (fun j hj => (hrow3.lt j hj).1))
      have HG : Hid (w5.ownsRow wz.heap.size 63 3 (.slice (some ⟨g, 0, none⟩) ((taisL z6 k).length + 1) cap) (taisL z6 (k + 1)).length ((taisL z6 (k + 1)).flatMap cT) ∧ Below wz.heap.size wz w5) := by
        refine ⟨?_, hB4.trans hB5⟩
        rw [taisL_succ, ← HQ.out]
        simpa using hown
      clear hown hgrow hgb hgl hB5 hrow3 hB4
      go_wp2_with fail
      go_roundw
      case rel => exact ⟨k + 1, by omega, by go_num, HG.out⟩
      case measure => simp [intOf]; omega
    · obtain rfl : k = len6 := by omega
      have hM2 := hM.later hB
      have hS2 := hS.later hB
      have hC2 := hC.later hB
      obtain ⟨va, vc, rfl⟩ : ∃ a c, u26 = .slice a (taisL z6 k).length c := by
        rcases hrow.2 with ⟨rfl, h0⟩ | ⟨g, cap, cur, rfl, _⟩
        · exact ⟨none, 0, by rw [h0]⟩
        · exact ⟨_, cap, rfl⟩
      have HROW : Hid (wr.ownsRow wz.heap.size 63 3 (.slice va (taisL z6 k).length vc) (taisL z6 k).length ((taisL z6 k).flatMap cT)) := hrow
      clear hM hS hC hB hrow hi hz0 hz1 hz2
      have hVE : ∃ a n c, VE = .slice a n c := by
        rcases hM2.row.2 with ⟨rfl, h0⟩ | ⟨g, cap, cur, rfl, _⟩
        · exact ⟨_, _, _, rfl⟩
        · exact ⟨_, _, _, rfl⟩
      rcases hC2 with rfl | ⟨R2, S, VL, bb, rfl, hSb, hSrow, hSm⟩
      · go_upto_region 35 with fail
        have hRb := Blk.fresh wr #[.int .u16 a0, .int .u16 a1, .slice none 0 0, .slice none 0 0, .slice va (taisL z6 k).length vc, .bool false] 77
        have hB5 : Below wr.heap.size wr (wr.alloc (.cells #[.int .u16 a0, .int .u16 a1, .slice none 0 0, .slice none 0 0, .slice va (taisL z6 k).length vc, .bool false] 77)) := (Below.refl _ _).alloc (Nat.le_refl _) _
        have hM5 := hM2.later hB5
        have hS5 := hS2.later hB5
        have HROW5 : Hid ((wr.alloc (.cells #[.int .u16 a0, .int .u16 a1, .slice none 0 0, .slice none 0 0, .slice va (taisL z6 k).length vc, .bool false] 77)).ownsRow wz.heap.size 63 3 (.slice va (taisL z6 k).length vc) (taisL z6 k).length ((taisL z6 k).flatMap cT)) := owns_later HROW.out hB5
        obtain ⟨R, hRe⟩ : ∃ R, R = wr.heap.size := ⟨_, rfl⟩
        rw [← hRe] at hRb
        rw [← hRe]
        generalize World.alloc wr _ = w5 at hRb hM5 hS5 HROW5 ⊢
        clear hRe hB5 hM2 hS2 HROW
        go_cut [31] from 163 to 166 (fun v wx => ∃ I, v = .pointer (some ⟨I, 0, none⟩) ∧ EndC w a0 a1 a2 z4 len4 z5 len5 z6 k nE I (.pointer none) (.int .i64 0) (.slice none 0 0) (.slice none 0 0) VE wx)
        case first =>
          obtain ⟨c, m1, m5, m6, m10⟩ := hM5.n
          have HMR : Hid (w5.ownsRow (N + 1) 61 4 VE (upto nE).length ((upto nE).flatMap cB)) := hM5.row
          have HLW : Hid (Below w.heap.size w w5) := hM5.low
          clear hM5 hS5
          go_wp2_with fail
          refine (cancel_nil N R c _ a0 a1 VE hVE w5 m1 (by exact hRb) m6 rfl rfl).mono ?_
          rintro e w6 ⟨I, rfl, hI1, hI2, hI3⟩
          have HEC : Hid (EndC w a0 a1 a2 z4 len4 z5 len5 z6 k nE I (.pointer none) (.int .i64 0) (.slice none 0 0) (.slice none 0 0) VE w6) := ⟨hI2, ⟨_, owns_later HMR.out hI3⟩, HLW.out.trans (hI3.mono HLW.out.size), .inl ⟨rfl, rfl, rfl⟩⟩
          clear hI2 hI3 m1 hRb
          go_wp2_with fail
          go_meet
          case rel => exact ⟨_, rfl, HEC.out⟩
        case rest =>
          obtain ⟨I, rfl, hE⟩ := hcut
          have HE : Hid _ := hE
          clear hE hM5 hS5 hRb
          rename_i hK
          exact hK _ _ (law_tail a0 a1 a2 a3 a4 len4 cap4 z4 a5 len5 cap5 z5 a6 k cap6 z6 w hz4 hb4 hl4 hz5 hb5 hl5 hc5 hz6 hb6 hl6 h3 nE I hnE _ _ _ _ VE wc HE.out _ _ _ _ _ _ _ _ _ _ _ _ _ _ _ _ _ _ _ _ _ _ _ _ _ _ _ _ _ _ _ _ _ _ _ _ _ _ _ _ _ _ _ _ _ _ _ _ _ _ _ _ _ _ _ _ _ _ _ _ _ _ _ _ _ _ _ _ _ _ _ _ _ _ _ _ _ _ _ _ _ _ _ _ _ _ _ _ _ _ _ _ _ _ _ _ _ _ _ _ _ _ _ _ _ _ _ _ _ _ _ _ _ _ _ _ _ _ _ _ _ _ _ _ _ _ _ _ _ _ _ _ _ _ _ _ _ _ _ _ _ _ _ _)
      · obtain ⟨la, lc, rfl⟩ : ∃ a c, VL = .slice a (firsts z5 len5).length c := by
          rcases hSrow.2 with ⟨rfl, h0⟩ | ⟨g, cap, cur, rfl, _⟩
          · exact ⟨none, 0, by rw [h0]⟩
          · exact ⟨_, cap, rfl⟩
        have q0 : wr.cell? ⟨S, 0, none⟩ = some (.slice la (firsts z5 len5).length lc) := hSb.1 0 (by omega)
        have hSl : S < wr.heap.size := hSb.lt (by omega)
        go_upto_region 35 with fail
        have hRb := Blk.fresh wr #[.int .u16 a0, .int .u16 a1, .slice none 0 0, .slice none 0 0, .slice va (taisL z6 k).length vc, .bool false] 77
        have hB5 : Below wr.heap.size wr (wr.alloc (.cells #[.int .u16 a0, .int .u16 a1, .slice none 0 0, .slice none 0 0, .slice va (taisL z6 k).length vc, .bool false] 77)) := (Below.refl _ _).alloc (Nat.le_refl _) _
        have hM5 := hM2.later hB5
        have hS5 := hS2.later hB5
        have HROW5 : Hid ((wr.alloc (.cells #[.int .u16 a0, .int .u16 a1, .slice none 0 0, .slice none 0 0, .slice va (taisL z6 k).length vc, .bool false] 77)).ownsRow wz.heap.size 63 3 (.slice va (taisL z6 k).length vc) (taisL z6 k).length ((taisL z6 k).flatMap cT)) := owns_later HROW.out hB5
        have hSb5 := hSb.below hB5 (hSb.lt (by omega))
        have HSR5 : Hid ((wr.alloc (.cells #[.int .u16 a0, .int .u16 a1, .slice none 0 0, .slice none 0 0, .slice va (taisL z6 k).length vc, .bool false] 77)).ownsRow bb 68 3 (.slice la (firsts z5 len5).length lc) (firsts z5 len5).length ((firsts z5 len5).flatMap cE)) := owns_later hSrow hB5
        have HSM5 : Hid (MapAt K32 (wr.alloc (.cells #[.int .u16 a0, .int .u16 a1, .slice none 0 0, .slice none 0 0, .slice va (taisL z6 k).length vc, .bool false] 77)) R2 ((firsts z5 len5).map fun e => (e, .bool true))) := hSm.later hB5
        obtain ⟨R, hRe⟩ : ∃ R, R = wr.heap.size := ⟨_, rfl⟩
        rw [← hRe] at hRb
        rw [← hRe]
        generalize World.alloc wr _ = w5 at hRb hM5 hS5 HROW5 hSb5 HSR5 HSM5 ⊢
        clear hRe hB5 hM2 hS2 HROW q0 hSb hSrow hSm hSl
        go_cut [31] from 163 to 166 (fun v wx => ∃ I C T, v = .pointer (some ⟨I, 0, none⟩) ∧ EndC w a0 a1 a2 z4 len4 z5 len5 z6 k nE I (.pointer (some ⟨S, 0, none⟩)) (.int .i64 (firsts z5 len5).length) C T VE wx)
        case first =>
          obtain ⟨c, m1, m5, m6, m10⟩ := hM5.n
          have HMR : Hid (w5.ownsRow (N + 1) 61 4 VE (upto nE).length ((upto nE).flatMap cB)) := hM5.row
          have HLW : Hid (Below w.heap.size w w5) := hM5.low
          have HS5 : Hid (AreaSt R1 (N + 1) V ts (areaL z4 len4) w5) := hS5
          have hfl : (firsts z5 len5).length ≤ 1024 := Nat.le_trans (firsts_len _ _) hl5
          have hSl5 := hSb5.lt (by omega)
          clear hM5 hS5
          by_cases hk0 : k = 0
          · have HK0 : Hid (k = 0) := hk0
            clear hk0
            go_wp2_with fail
            refine (cancel_cells N R S c _ _ a0 a1 a2 VE (.slice va (taisL z6 k).length vc) hVE ⟨va, vc, by rw [taisL_len, HK0.out]⟩ (firsts z5 len5) bb w5 m1 (by exact hRb) hSb5 m5 m6 rfl rfl rfl HSR5.out hfl).mono ?_
            rintro e w6 ⟨I, C, rfl, hI1, hI2, hI3, hI4⟩
            have HEC : Hid (EndC w a0 a1 a2 z4 len4 z5 len5 z6 k nE I (.pointer (some ⟨S, 0, none⟩)) (.int .i64 (firsts z5 len5).length) C (.slice none 0 0) VE w6) := ⟨hI2, ⟨_, owns_later HMR.out hI4⟩, HLW.out.trans (hI4.mono HLW.out.size), .inr ⟨S, _, R2, la, lc, rfl, rfl, rfl, hSb5.below hI4 hSl5, .inl ⟨HK0.out, rfl, _, hI3⟩⟩⟩
            clear hI2 hI3 hI4 m1 hRb hSb5
            go_wp2_with fail
            go_meet
            case rel => exact ⟨_, _, _, rfl, HEC.out⟩
          · go_wp2_with fail
            refine (cancel_tais N R S R1 R2 c _ _ a0 a1 a2 VE hVE (areaL z4 len4) (fun e => (firsts z5 len5).contains e) (taisL z6 k) 0 w5 m1 (by exact hRb) hSb5 m5 m6 m10 rfl rfl rfl (owns_base HROW5.out (Nat.zero_le _)) (by rw [taisL_len]; exact hl6) (by rw [taisL_len]; omega) (fun t ht => by
              obtain ⟨j, _, rfl⟩ := List.mem_map.1 ht
              omega) (fun t _ _ => ⟨V t, HS5.out.look t, owns_base (HS5.out.row t) (Nat.zero_le _)⟩) (fun t => Nat.le_trans (areaL_len _ _ _) hl4) (fun e w' hb => set_look HSM5.out (firsts_nodup z5 len5) e w' hb)).mono ?_
            rintro e w6 ⟨I, T, OV, rfl, hI1, hI2, hI3, hI5, hI4⟩
            have HEC : Hid (EndC w a0 a1 a2 z4 len4 z5 len5 z6 k nE I (.pointer (some ⟨S, 0, none⟩)) (.int .i64 (firsts z5 len5).length) (.slice none 0 0) T VE w6) := ⟨hI2, ⟨_, owns_later HMR.out hI4⟩, HLW.out.trans (hI4.mono HLW.out.size), .inr ⟨S, _, R2, la, lc, rfl, rfl, rfl, hSb5.below hI4 hSl5, .inr ⟨by omega, rfl, _, OV, hI3, hI5⟩⟩⟩
            clear hI2 hI3 hI4 hI5 m1 hRb hSb5
            go_wp2_with fail
            go_meet
            case rel => exact ⟨_, _, _, rfl, HEC.out⟩
        case rest =>
          obtain ⟨I, C, T, rfl, hE⟩ := hcut
          have HE : Hid _ := hE
          clear hE hM5 hS5 hRb hSb5
          rename_i hK
          exact hK _ _ (law_tail a0 a1 a2 a3 a4 len4 cap4 z4 a5 len5 cap5 z5 a6 k cap6 z6 w hz4 hb4 hl4 hz5 hb5 hl5 hc5 hz6 hb6 hl6 h3 nE I hnE _ _ _ _ VE wc HE.out _ _ _ _ _ _ _ _ _ _ _ _ _ _ _ _ _ _ _ _ _ _ _ _ _ _ _ _ _ _ _ _ _ _ _ _ _ _ _ _ _ _ _ _ _ _ _ _ _ _ _ _ _ _ _ _ _ _ _ _ _ _ _ _ _ _ _ _ _ _ _ _ _ _ _ _ _ _ _ _ _ _ _ _ _ _ _ _ _ _ _ _ _ _ _ _ _ _ _ _ _ _ _ _ _ _ _ _ _ _ _ _ _ _ _ _ _ _ _ _ _ _ _ _ _ _ _ _ _ _ _ _ _ _ _ _ _ _ _ _ _ _ _ _)

end Go.Proofs.Ybulkbpkc
