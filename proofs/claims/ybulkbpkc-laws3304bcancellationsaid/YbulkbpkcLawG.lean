import Derived.Test.YbulkbpkcPos
namespace Go.Proofs.Ybulkbpkc
open Go.ChangeShapes Go.WideShapes Go.ChangeAt Go.RowKit
set_option linter.unusedVariables false
attribute [local go_sem ↓] eq61 eq86 eq63'
attribute [local go_sem] guard61 guard86 guard63

set_option maxRecDepth 1000000 in
set_option maxHeartbeats 4000000 in
/-- Areas are named: each with its cells of the set. -/
theorem law_areas (a0 a1 a2 a3 : Int) (a4 : Option Addr) (len4 cap4 : Nat) (z4 : List Int) (a5 : Option Addr) (len5 cap5 : Nat) (z5 : List Int) (a6 : Option Addr) (len6 cap6 : Nat) (z6 : List Int) (w : World) (hz4 : ArgAt w.heap.size w a4 len4 z4) (hb4 : ∀ j : Nat, 0 ≤ z4[j]?.getD 0 ∧ z4[j]?.getD 0 ≤ 255) (hl4 : len4 ≤ 1024) (hz5 : ArgAt w.heap.size w a5 len5 z5) (hb5 : ∀ j : Nat, 0 ≤ z5[j]?.getD 0 ∧ z5[j]?.getD 0 ≤ 255) (hl5 : len5 ≤ 1024) (hc5 : len5 ≤ cap5) (hz6 : ArgAt w.heap.size w a6 len6 z6) (hb6 : ∀ j : Nat, 0 ≤ z6[j]?.getD 0 ∧ z6[j]?.getD 0 ≤ 255) (hl6 : len6 ≤ 1024)
    (I b : Nat) (T : Value) (OV : List AreaOut) (wz : World) (hIl : I < wz.heap.size) (e3 : wz.cell? ⟨I, 3, none⟩ = some T) (hO : OutSt b a2 T OV wz) (hOV : OV.map (fun x => (x.1, x.2.1)) = named (areaL z4 len4) (fun e => (firsts z5 len5).contains e) (taisL z6 len6)) (hlow : Below w.heap.size w wz)
    (j7 j8 j9 j10 j11 j12 j13 j14 j15 j16 j17 j18 j19 j20 j21 j22 j23 j24 j25 j26 j27 j28 j29 j30 j32 j44 j45 j46 j47 j48 j49 j50 j51 j52 j53 j54 j55 j56 j57 j58 j59 j60 j61 j62 j63 j64 j65 j66 j67 j68 j69 j70 j71 j72 j73 j74 j75 j76 j77 j78 j79 j80 j81 j82 j83 j84 j85 j86 j87 j88 j89 j90 j91 j92 j93 j94 j95 j96 j97 j98 j99 j100 j101 j102 j103 j104 j105 j106 j107 j108 j109 j110 j111 j112 j113 j114 j115 j116 j117 j118 j119 j120 j121 j122 j123 j124 j125 j126 j127 j128 j129 j130 j131 j132 j133 j134 j135 j136 j137 j138 j139 j140 j141 j142 j143 j144 j145 j146 j147 j148 j149 j150 j151 j152 j153 j154 j155 j156 j157 j158 j159 j160 j161 j162 j163 j164 j165 j166 j167 j168 j169 j170 j171 j172 j173 j174 j175 j176 j177 j178 j179 j180 j181 j182 j183 j184 j185 j186 j187 j188 j189 j190 j191 j192 j193 j194 j195 j196 j197 j198 j199 j200 j201 j202 j203 j204 j205 j206 j207 j208 j209 j210 j211 j212 j213 j214 j215 j216 j217 j218 j219 j220 j221 j222 j223 j224 j225 j226 j227 j228 j229 j230 j231 j232 j233 j234 j235 j236 j237 j238 j286 j287 j288 j289 j290 j291 : Value) :
    Code.wp Yba.prog ((Yba.f3.body.bind (afterRegion 68)).getD .skip) (bodyPost Yba.prog Yba.f3 fun e w' => e = .returned (.bool true) ∧ Below w.heap.size w w')
      ⟨#[.int .u16 a0, .int .u16 a1, .int .u16 a2, .int .u8 a3, .slice a4 len4 cap4, .slice a5 len5 cap5, .slice a6 len6 cap6, j7, j8, j9, j10, j11, j12, j13, j14, j15, j16, j17, j18, j19, j20, j21, j22, j23, j24, j25, j26, j27, j28, j29, j30, .pointer (some ⟨I, 0, none⟩), j32, undef, undef, undef, .int .i64 0, undef, undef, undef, undef, undef, undef, undef, j44, j45, j46, j47, j48, j49, j50, j51, j52, j53, j54, j55, j56, j57, j58, j59, j60, j61, j62, j63, j64, j65, j66, j67, j68, j69, j70, j71, j72, j73, j74, j75, j76, j77, j78, j79, j80, j81, j82, j83, j84, j85, j86, j87, j88, j89, j90, j91, j92, j93, j94, j95, j96, j97, j98, j99, j100, j101, j102, j103, j104, j105, j106, j107, j108, j109, j110, j111, j112, j113, j114, j115, j116, j117, j118, j119, j120, j121, j122, j123, j124, j125, j126, j127, j128, j129, j130, j131, j132, j133, j134, j135, j136, j137, j138, j139, j140, j141, j142, j143, j144, j145, j146, j147, j148, j149, j150, j151, j152, j153, j154, j155, j156, j157, j158, j159, j160, j161, j162, j163, j164, j165, j166, j167, j168, j169, j170, j171, j172, j173, j174, j175, j176, j177, j178, j179, j180, j181, j182, j183, j184, j185, j186, j187, j188, j189, j190, j191, j192, j193, j194, j195, j196, j197, j198, j199, j200, j201, j202, j203, j204, j205, j206, j207, j208, j209, j210, j211, j212, j213, j214, j215, j216, j217, j218, j219, j220, j221, j222, j223, j224, j225, j226, j227, j228, j229, j230, j231, j232, j233, j234, j235, j236, j237, j238, undef, undef, undef, undef, undef, undef, undef, undef, undef, undef, undef, undef, undef, undef, undef, undef, undef, undef, undef, undef, undef, undef, undef, undef, undef, undef, undef, undef, undef, undef, undef, undef, undef, undef, undef, undef, undef, undef, undef, undef, undef, undef, undef, undef, undef, undef, undef, j286, j287, j288, j289, j290, j291, undef, undef, undef, undef, undef, undef, undef, undef, undef, undef, undef, undef, undef, undef, undef, undef, undef, undef, undef, undef, undef, undef, undef, undef, undef, undef, undef, undef, undef, undef, undef, undef, undef, undef, undef, undef, undef, undef, undef, undef, undef, undef, undef, undef, undef, undef, undef, undef, undef, undef, undef, undef, undef, undef, undef, undef, undef, undef, undef, undef, undef, undef, undef, undef, undef, undef, undef, undef, undef, undef, undef, undef, undef, undef, undef, undef, undef, undef, undef, undef, undef, undef, undef, undef, undef, undef, undef], []⟩ wz := by
  obtain ⟨ta, tc, rfl, hread⟩ := row_read cI (fun _ => rfl) hO.row
  have HRD : Hid _ := hread
  have HLW : Hid (Below w.heap.size w wz) := hlow
  have HOV : Hid _ := hOV
  have HO : Hid (OutSt b a2 (.slice ta OV.length tc) OV wz) := hO
  have hol : OV.length ≤ 1024 := by rw [← posL_all hOV]; exact Nat.le_trans (posL_le _ _ _ _ _ _) hl6
  clear hread hlow hOV hO
  obtain ⟨i0, hi, hz0, hz1, hz2⟩ := info_parts Yba.infoC
  conv => arg 2; whnf
  go_wp2_with fail
  go_loopw [36, 294] (fun v i wr => ∃ k : Nat, k ≤ len6 ∧ i = .int .i64 k ∧ v = .int .i64 (posL z4 len4 z5 len5 z6 k) ∧ Below wz.heap.size wz wr) (fun _ i _ => len6 - (intOf i).toNat)
  case atStart => exact ⟨0, by omega, rfl, rfl, Below.refl _ _⟩
  case round =>
    obtain ⟨k, hk, rfl, rfl, hB⟩ := hrel
    have d3 : wr.cell? ⟨I, 3, none⟩ = some (.slice ta OV.length tc) := (hB.cell (p := ⟨I, 3, none⟩) hIl).trans e3
    have hIr : I < wr.heap.size := Nat.lt_of_lt_of_le hIl hB.size
    have hpl := posL_le z4 len4 z5 len5 z6 k
    by_cases hlt : k < len6
    · obtain ⟨wo, rfl⟩ : ∃ wo, wo = wr := ⟨_, rfl⟩
      obtain ⟨b6, off, rfl, hbl, hc⟩ := hz6 k hlt
      obtain ⟨q, hq⟩ : ∃ q, q = z6.getD k 0 := ⟨_, rfl⟩
      have hq0 : 0 ≤ q := by rw [hq]; simpa using (hb6 k).1
      have hq1 : q ≤ 255 := by rw [hq]; simpa using (hb6 k).2
      have hlow : Below w.heap.size w wo := HLW.out.trans (hB.mono HLW.out.size)
      have hc2 : wo.cell? ⟨b6, off + k, none⟩ = some (.int .u8 q) := by rw [hq]; exact (hlow.cell (by exact hbl)).trans hc
      have HQ : Hid (q = z6.getD k 0) := hq
      have hk0 : (0 : Int) ≤ (k : Int) := by omega
      have hk7 : (k : Int) < (len6 : Int) := by omega
      have HB : Hid (Below wz.heap.size wz wo) := hB
      have HL : Hid (Below w.heap.size w wo) := hlow
      clear hc hq hlow hB
      go_wp2_with fail
      clear hc2
      go_loopw [39, 300] (fun V i wr => ∃ j : Nat, j ≤ len4 ∧ i = .int .i64 j ∧ wr.ownsRow wo.heap.size 86 4 V (wantL z4 z5 j len5 (q % 4)).length ((wantL z4 z5 j len5 (q % 4)).flatMap (cC a2)) ∧ Below wo.heap.size wo wr) (fun _ i _ => len4 - (intOf i).toNat)
      case atStart => exact ⟨0, by omega, rfl, World.ownsRow_nil _ _ _ _, Below.refl _ _⟩
      case round =>
        obtain ⟨j, hj, rfl, hrow, hB⟩ := hrel
        by_cases hjl : j < len4
        · obtain ⟨b4, off4, rfl, hbl4, hc⟩ := hz4 j hjl
          obtain ⟨x, hx⟩ : ∃ x, x = z4.getD j 0 := ⟨_, rfl⟩
          have hx0 : 0 ≤ x := by rw [hx]; simpa using (hb4 j).1
          have hx1 : x ≤ 255 := by rw [hx]; simpa using (hb4 j).2
          have hlow : Below w.heap.size w wr := HL.out.trans (hB.mono HL.out.size)
          have hc2 : wr.cell? ⟨b4, off4 + j, none⟩ = some (.int .u8 x) := by rw [hx]; exact (hlow.cell (by exact hbl4)).trans hc
          have HX : Hid (x = z4.getD j 0) := hx
          have hz5r := hz5.later hlow
          have hj0 : (0 : Int) ≤ (j : Int) := by omega
          have hj7 : (j : Int) < (len4 : Int) := by omega
          have HR : Hid (wr.ownsRow wo.heap.size 86 4 u39 (wantL z4 z5 j len5 (q % 4)).length ((wantL z4 z5 j len5 (q % 4)).flatMap (cC a2))) := hrow
          have HBr : Hid (Below wo.heap.size wo wr) := hB
          clear hc hx hlow hB hrow
          by_cases ht : x / 16 % 4 = q % 4
          · have hte : (x / 16 % 4 == q % 4) = true := by simpa using ht
            have HT : Hid (x / 16 % 4 = q % 4) := ht
            clear ht
            go_wp2_with fail
            refine (in_any w.heap.size _ len5 cap5 z5 x wr hz5r hb5 ⟨hx0, hx1⟩ hl5).mono ?_
            rintro e w3 ⟨rfl, hw3⟩
            rw [hw3]
            clear hw3 w3 hz5r
            cases hin : inS z5 len5 x with
            | false =>
              have HW : Hid (wantL z4 z5 (j + 1) len5 (q % 4) = wantL z4 z5 j len5 (q % 4)) := wantL_miss _ _ _ _ _ (by rw [← HX.out]; exact fun h => by rw [hin] at h; cases h.2)
              go_wp2_with fail
              go_roundw
              case rel => exact ⟨j + 1, by omega, by go_num, by rw [HW.out]; exact HR.out, HBr.out⟩
              case measure => simp [intOf]; omega
            | true =>
              have HW : Hid (wantL z4 z5 (j + 1) len5 (q % 4) = wantL z4 z5 j len5 (q % 4) ++ [x % 8]) := by rw [HX.out]; exact wantL_hit _ _ _ _ _ (by rw [← HX.out]; exact HT.out) (by rw [← HX.out]; exact hin)
              go_wp2_with fail
              refine (cell_any x hx0 hx1 wr).mono ?_
              rintro e w3 ⟨rfl, hB3⟩
              have hrow3 := owns_later HR.out hB3
              have hB4 : Below wo.heap.size wo w3 := HBr.out.trans (hB3.mono HBr.out.size)
              have hwl : (wantL z4 z5 j len5 (q % 4)).length ≤ 1024 := Nat.le_trans (wantL_len z4 z5 j len5 (q % 4)) (by omega)
              clear HR
              generalize wantL z4 z5 j len5 (q % 4) = m at hrow3 HW hwl
              clear hB3 hc2 HBr
              go_wp2_with (first
                | (at_builtin; refine wpList_append_lies _ rfl _ _ 80 rfl wo.heap.size 86 i0 _ 4 48 Yba.underlying80 hi hz0 hz1 hz2 rfl (by decide) u39 m.length (m.flatMap (cC a2)) rfl (hrow3.alloc _) ⟨w3.heap.size, 0, none⟩ 1 1 (cC a2 (x % 8)) rfl rfl (World.news_of_block (cs := #[.string s1, .string s2, .int .u32 (x % 8), .int .u16 a2]) (t := 86) (fr := (0, 0)) (heap_alloc_new w3 _)) (by simp [cC, Value.oneCell']) (by omega) (by unfold maxLen; omega) (by omega) (by have := hB4.size; simp; omega) (w3.heap.size + 1) (by simp) ?_)
                | go_in)
              intro g cap w5 hown hgrow hgb hgl
              have hB5 : Below wo.heap.size w3 w5 := ((Below.refl _ w3).alloc hB4.size _).trans ((Below.refl _ _).grown hgrow (by have := hB4.size; simp; omega) (fun j hj => (hrow3.lt j hj).1))
              have HG : Hid (w5.ownsRow wo.heap.size 86 4 (.slice (some ⟨g, 0, none⟩) (m.length + 1) cap) (wantL z4 z5 (j + 1) len5 (q % 4)).length ((wantL z4 z5 (j + 1) len5 (q % 4)).flatMap (cC a2)) ∧ Below wo.heap.size wo w5) := by
                refine ⟨?_, hB4.trans hB5⟩
                rw [HW.out]
                simpa using hown
              clear hown hgrow hgb hgl hB5 hrow3 hB4
              go_wp2_with fail
              go_roundw
              case rel => exact ⟨j + 1, by omega, by go_num, HG.out⟩
              case measure => simp [intOf]; omega
          · have hte : (x / 16 % 4 == q % 4) = false := by simpa using ht
            have HW : Hid (wantL z4 z5 (j + 1) len5 (q % 4) = wantL z4 z5 j len5 (q % 4)) := wantL_miss _ _ _ _ _ (by rw [← HX.out]; exact fun h => ht h.1)
            clear ht
            go_wp2_with fail
            go_roundw
            case rel => exact ⟨j + 1, by omega, by go_num, by rw [HW.out]; exact HR.out, HBr.out⟩
            case measure => simp [intOf]; omega
        · obtain rfl : j = len4 := by omega
          obtain ⟨m, hm⟩ : ∃ m, m = wantL z4 z5 j len5 (q % 4) := ⟨_, rfl⟩
          rw [← hm] at hrow
          have HM : Hid (m = wantL z4 z5 j len5 (q % 4)) := hm
          have hml : m.length ≤ 1024 := by rw [hm]; exact Nat.le_trans (wantL_len _ _ _ _ _) hl4
          obtain ⟨va, vc, rfl, hvread⟩ := row_read (cC a2) (fun _ => rfl) hrow
          have HVR : Hid _ := hvread
          have HBz : Hid (Below wz.heap.size wz wr) := HB.out.trans (hB.mono HB.out.size)
          have d3r : wr.cell? ⟨I, 3, none⟩ = some (.slice ta OV.length tc) := (hB.cell (p := ⟨I, 3, none⟩) hIr).trans d3
          have hIq : I < wr.heap.size := Nat.lt_of_lt_of_le hIr hB.size
          clear hm hvread hrow hB d3
          by_cases hm0 : m = []
          · have hme : ((m.length : Int) == 0) = true := by rw [hm0]; rfl
            have HP : Hid (posL z4 j z5 len5 z6 (k + 1) = posL z4 j z5 len5 z6 k) := posL_skip (by rw [← HQ.out, ← HM.out]; exact hm0)
            clear hm0
            go_wp2_with fail
            go_roundw
            case rel => exact ⟨k + 1, by omega, by go_num, by rw [HP.out], HBz.out⟩
            case measure => simp [intOf]; omega
          · have hmp : 0 < m.length := List.length_pos_iff.2 hm0
            have hme : ((m.length : Int) == 0) = false := by rw [beq_eq_false_iff_ne]; omega
            have HP : Hid (posL z4 j z5 len5 z6 (k + 1) = posL z4 j z5 len5 z6 k + 1) := posL_hit (by rw [← HQ.out, ← HM.out]; exact hm0)
            obtain ⟨V', hV'⟩ := named_at HOV.out hlt (by rw [← HQ.out, ← HM.out]; exact hm0)
            rw [← HQ.out, ← HM.out] at hV'
            have hpo : posL z4 j z5 len5 z6 k < OV.length := (List.getElem?_eq_some_iff.1 hV').1
            have hpi : (posL z4 j z5 len5 z6 k : Int) < (OV.length : Int) := by omega
            have hp0 : (0 : Int) ≤ (posL z4 j z5 len5 z6 k : Int) := by omega
            have hpd : decide (OV.length ≤ posL z4 j z5 len5 z6 k) = false := decide_eq_false (by omega)
            have hin : wz.ownsRow b 86 4 V' m.length (m.flatMap (cC a2)) := HO.out.inner _ (List.mem_of_getElem? hV')
            obtain ⟨ia, ic, rfl, hiread⟩ := row_read (cC a2) (fun _ => rfl) hin
            have HIR : Hid _ := hiread
            obtain ⟨g, rfl, hgl, hcells⟩ := HRD.out _ _ hV'
            have hgr : g < wr.heap.size := Nat.lt_of_lt_of_le hgl HBz.out.size
            have y0 : wr.cell? ⟨g, posL z4 j z5 len5 z6 k * 4, none⟩ = some (.string s1) := (HBz.out.cell (p := ⟨g, posL z4 j z5 len5 z6 k * 4, none⟩) hgl).trans (hcells 0 (by omega))
            have y1 : wr.cell? ⟨g, posL z4 j z5 len5 z6 k * 4 + 1, none⟩ = some (.string s2) := (HBz.out.cell (p := ⟨g, posL z4 j z5 len5 z6 k * 4 + 1, none⟩) hgl).trans (hcells 1 (by omega))
            have y2 : wr.cell? ⟨g, posL z4 j z5 len5 z6 k * 4 + 2, none⟩ = some (.int .u16 (q % 4)) := (HBz.out.cell (p := ⟨g, posL z4 j z5 len5 z6 k * 4 + 2, none⟩) hgl).trans (hcells 2 (by omega))
            have y3 : wr.cell? ⟨g, posL z4 j z5 len5 z6 k * 4 + 3, none⟩ = some (.slice ia m.length ic) := (HBz.out.cell (p := ⟨g, posL z4 j z5 len5 z6 k * 4 + 3, none⟩) hgl).trans (hcells 3 (by omega))
            clear hcells hV' hin hiread hm0
            go_upto_region 83 with fail
            have hDb := Blk.fresh wr #[.string s1, .string s2, .int .u16 (q % 4), .slice ia m.length ic] 88
            have hB2 : Below wr.heap.size wr (wr.alloc (.cells #[.string s1, .string s2, .int .u16 (q % 4), .slice ia m.length ic] 88)) := (Below.refl _ _).alloc (Nat.le_refl _) _
            have hDl : wr.heap.size < (wr.alloc (.cells #[.string s1, .string s2, .int .u16 (q % 4), .slice ia m.length ic] 88)).heap.size := by simp
            obtain ⟨D, hDe⟩ : ∃ D, D = wr.heap.size := ⟨_, rfl⟩
            rw [← hDe] at hDb hDl
            rw [← hDe]
            generalize World.alloc wr _ = w2 at hDb hB2 hDl ⊢
            have p0 : w2.cell? ⟨D, 0, none⟩ = some (.string s1) := hDb.1 0 (by simp)
            have p1 : w2.cell? ⟨D, 1, none⟩ = some (.string s2) := hDb.1 1 (by simp)
            have p2 : w2.cell? ⟨D, 2, none⟩ = some (.int .u16 (q % 4)) := hDb.1 2 (by simp)
            have p3 : w2.cell? ⟨D, 3, none⟩ = some (.slice ia m.length ic) := hDb.1 3 (by simp)
            have HB2 : Hid (Below wr.heap.size wr w2) := hB2
            clear hDe hDb hB2 y0 y1 y2 y3
            go_cut [352] from 340 to 352 (fun v wx => v = .bool false ∧ Below w2.heap.size w2 wx)
            case first =>
              go_region_with (go_at_call 5; refine (tai_any q hq0 hq1 _).mono ?_; rintro e w4 ⟨rfl, hB3⟩; have v0 := (hB3.cell (p := ⟨D, 0, none⟩) hDl).trans p0; have v1 := (hB3.cell (p := ⟨D, 1, none⟩) hDl).trans p1; have v2 := (hB3.cell (p := ⟨D, 2, none⟩) hDl).trans p2; have v3 := (hB3.cell (p := ⟨D, 3, none⟩) hDl).trans p3; have hD4 : D < w4.heap.size := Nat.lt_of_lt_of_le hDl hB3.size)
              all_goals
                have HB4 : Hid (Below w2.heap.size w2 w4) := (Below.refl _ w2).drew.trans hB3
                clear hB3
                go_wp2_with fail
                simp only [Act.put, List.getElem_toArray, List.getElem_cons_succ, List.getElem_cons_zero, List.setIfInBounds_toArray, List.set_cons_succ, List.set_cons_zero]
                go_meet
                case rel => exact ⟨rfl, HB4.out⟩
            case rest =>
              obtain ⟨rfl, hBc⟩ := hcut
              have p3c : wc.cell? ⟨D, 3, none⟩ = some (.slice ia m.length ic) := (hBc.cell (p := ⟨D, 3, none⟩) hDl).trans p3
              have hDc : D < wc.heap.size := Nat.lt_of_lt_of_le hDl hBc.size
              have HBc : Hid (Below w2.heap.size w2 wc) := hBc
              clear hBc p0 p1 p2 p3c hDc
              obtain ⟨wp, rfl⟩ : ∃ wp, wp = wr := ⟨_, rfl⟩
              go_wp2_with fail
              go_loopw [43] (fun i wq => ∃ n : Nat, n ≤ m.length ∧ i = .int .i64 n ∧ Below w2.heap.size w2 wq) (fun i _ => m.length - (intOf i).toNat)
              case atStart => exact ⟨0, by omega, rfl, HBc.out⟩
              case round =>
                obtain ⟨n, hn, rfl, hBn⟩ := hrel
                have p3n : wr.cell? ⟨D, 3, none⟩ = some (.slice ia m.length ic) := (hBn.cell (p := ⟨D, 3, none⟩) hDl).trans p3
                have hDn : D < wr.heap.size := Nat.lt_of_lt_of_le hDl hBn.size
                by_cases hnl : n < m.length
                · obtain ⟨y, hy⟩ : ∃ y, m[n]? = some y := ⟨_, List.getElem?_eq_getElem hnl⟩
                  obtain ⟨g1, rfl, hg1, hc1⟩ := HVR.out n y hy
                  obtain ⟨g2, rfl, hg2, hc2⟩ := HIR.out n y hy
                  have hn0 : (0 : Int) ≤ (n : Int) := by omega
                  have hnm : (n : Int) < (m.length : Int) := by omega
                  have hg1p : g1 < w2.heap.size := Nat.lt_of_lt_of_le hg1 HB2.out.size
                  have hg2p : g2 < wp.heap.size := Nat.lt_of_lt_of_le hg2 HBz.out.size
                  have hg2q : g2 < w2.heap.size := Nat.lt_of_lt_of_le hg2p HB2.out.size
                  have o0 : wr.cell? ⟨g1, n * 4, none⟩ = some (.string s1) := ((hBn.cell (p := ⟨g1, n * 4, none⟩) hg1p).trans (HB2.out.cell (p := ⟨g1, n * 4, none⟩) hg1)).trans (hc1 0 (by omega))
                  have o1 : wr.cell? ⟨g1, n * 4 + 1, none⟩ = some (.string s2) := ((hBn.cell (p := ⟨g1, n * 4 + 1, none⟩) hg1p).trans (HB2.out.cell (p := ⟨g1, n * 4 + 1, none⟩) hg1)).trans (hc1 1 (by omega))
                  have o2 : wr.cell? ⟨g1, n * 4 + 2, none⟩ = some (.int .u32 y) := ((hBn.cell (p := ⟨g1, n * 4 + 2, none⟩) hg1p).trans (HB2.out.cell (p := ⟨g1, n * 4 + 2, none⟩) hg1)).trans (hc1 2 (by omega))
                  have o3 : wr.cell? ⟨g1, n * 4 + 3, none⟩ = some (.int .u16 a2) := ((hBn.cell (p := ⟨g1, n * 4 + 3, none⟩) hg1p).trans (HB2.out.cell (p := ⟨g1, n * 4 + 3, none⟩) hg1)).trans (hc1 3 (by omega))
                  have y0 : wr.cell? ⟨g2, n * 4, none⟩ = some (.string s1) := ((hBn.cell (p := ⟨g2, n * 4, none⟩) hg2q).trans (HB2.out.cell (p := ⟨g2, n * 4, none⟩) hg2p)).trans ((HBz.out.cell (p := ⟨g2, n * 4, none⟩) hg2).trans (hc2 0 (by omega)))
                  have y1 : wr.cell? ⟨g2, n * 4 + 1, none⟩ = some (.string s2) := ((hBn.cell (p := ⟨g2, n * 4 + 1, none⟩) hg2q).trans (HB2.out.cell (p := ⟨g2, n * 4 + 1, none⟩) hg2p)).trans ((HBz.out.cell (p := ⟨g2, n * 4 + 1, none⟩) hg2).trans (hc2 1 (by omega)))
                  have y2 : wr.cell? ⟨g2, n * 4 + 2, none⟩ = some (.int .u32 y) := ((hBn.cell (p := ⟨g2, n * 4 + 2, none⟩) hg2q).trans (HB2.out.cell (p := ⟨g2, n * 4 + 2, none⟩) hg2p)).trans ((HBz.out.cell (p := ⟨g2, n * 4 + 2, none⟩) hg2).trans (hc2 2 (by omega)))
                  have y3 : wr.cell? ⟨g2, n * 4 + 3, none⟩ = some (.int .u16 a2) := ((hBn.cell (p := ⟨g2, n * 4 + 3, none⟩) hg2q).trans (HB2.out.cell (p := ⟨g2, n * 4 + 3, none⟩) hg2p)).trans ((HBz.out.cell (p := ⟨g2, n * 4 + 3, none⟩) hg2).trans (hc2 3 (by omega)))
                  have hg1r : g1 < wr.heap.size := Nat.lt_of_lt_of_le hg1p hBn.size
                  have hg2r : g2 < wr.heap.size := Nat.lt_of_lt_of_le hg2q hBn.size
                  have HBn : Hid (Below w2.heap.size w2 wr) := hBn
                  clear hc1 hc2 hBn hy
                  go_wp2_with fail
                  go_quiet (fail)
                  go_wp2_with fail
                  go_roundw
                  case rel => exact ⟨n + 1, by omega, by go_num, HBn.out.trans ⟨rfl, rfl, rfl, Nat.le_refl _, fun _ _ => rfl⟩⟩
                  case measure => simp [intOf]; omega
                · obtain rfl : n = m.length := by omega
                  have HF : Hid (Below wz.heap.size wz wr) := (HBz.out.trans (HB2.out.mono HBz.out.size)).trans (hBn.mono (Nat.le_trans HBz.out.size HB2.out.size))
                  clear hBn
                  go_wp2_with fail
                  go_roundw
                  case rel => exact ⟨k + 1, by omega, by go_num, by rw [HP.out]; simp, HF.out⟩
                  case measure => simp [intOf]; omega
    · obtain rfl : k = len6 := by omega
      have HLR : Hid (Below w.heap.size w wr) := HLW.out.trans (hB.mono HLW.out.size)
      have hpe : ((posL z4 len4 z5 len5 z6 k : Int) == (OV.length : Int)) = true := by rw [posL_all HOV.out]; simp
      clear hB
      go_wp2_with fail
      go_ret
      exact ⟨rfl, HLR.out⟩

end Go.Proofs.Ybulkbpkc
