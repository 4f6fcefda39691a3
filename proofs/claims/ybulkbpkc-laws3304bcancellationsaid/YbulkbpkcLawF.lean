import Derived.Test.YbulkbpkcPos
namespace Go.Proofs.Ybulkbpkc
open Go.ChangeShapes Go.WideShapes Go.ChangeAt Go.RowKit
set_option linter.unusedVariables false
attribute [local go_sem ↓] eq61 eq86 eq63'
attribute [local go_sem] guard61 guard86 guard63

set_option maxRecDepth 1000000 in
set_option maxHeartbeats 4000000 in
/-- No areas: the set's cells, in the order of their first coming. -/
theorem law_cells (a0 a1 a2 a3 : Int) (a4 : Option Addr) (len4 cap4 : Nat) (z4 : List Int) (a5 : Option Addr) (len5 cap5 : Nat) (z5 : List Int) (a6 : Option Addr) (len6 cap6 : Nat) (z6 : List Int) (w : World) (hz4 : ArgAt w.heap.size w a4 len4 z4) (hb4 : ∀ j : Nat, 0 ≤ z4[j]?.getD 0 ∧ z4[j]?.getD 0 ≤ 255) (hl4 : len4 ≤ 1024) (hz5 : ArgAt w.heap.size w a5 len5 z5) (hb5 : ∀ j : Nat, 0 ≤ z5[j]?.getD 0 ∧ z5[j]?.getD 0 ≤ 255) (hl5 : len5 ≤ 1024) (hc5 : len5 ≤ cap5) (hz6 : ArgAt w.heap.size w a6 len6 z6) (hb6 : ∀ j : Nat, 0 ≤ z6[j]?.getD 0 ∧ z6[j]?.getD 0 ≤ 255) (hl6 : len6 ≤ 1024)
    (I b : Nat) (C : Value) (wz : World) (hIl : I < wz.heap.size) (e2 : wz.cell? ⟨I, 2, none⟩ = some C) (e3 : wz.cell? ⟨I, 3, none⟩ = some (.slice none 0 0)) (hrow : wz.ownsRow b 86 4 C (firsts z5 len5).length ((firsts z5 len5).flatMap (cC a2))) (hlow : Below w.heap.size w wz)
    (j7 j8 j9 j10 j11 j12 j13 j14 j15 j16 j17 j18 j19 j20 j21 j22 j23 j24 j25 j26 j27 j28 j29 j30 j32 j44 j45 j46 j47 j48 j49 j50 j51 j52 j53 j54 j55 j56 j57 j58 j59 j60 j61 j62 j63 j64 j65 j66 j67 j68 j69 j70 j71 j72 j73 j74 j75 j76 j77 j78 j79 j80 j81 j82 j83 j84 j85 j86 j87 j88 j89 j90 j91 j92 j93 j94 j95 j96 j97 j98 j99 j100 j101 j102 j103 j104 j105 j106 j107 j108 j109 j110 j111 j112 j113 j114 j115 j116 j117 j118 j119 j120 j121 j122 j123 j124 j125 j126 j127 j128 j129 j130 j131 j132 j133 j134 j135 j136 j137 j138 j139 j140 j141 j142 j143 j144 j145 j146 j147 j148 j149 j150 j151 j152 j153 j154 j155 j156 j157 j158 j159 j160 j161 j162 j163 j164 j165 j166 j167 j168 j169 j170 j171 j172 j173 j174 j175 j176 j177 j178 j179 j180 j181 j182 j183 j184 j185 j186 j187 j188 j189 j190 j191 j192 j193 j194 j195 j196 j197 j198 j199 j200 j201 j202 j203 j204 j205 j206 j207 j208 j209 j210 j211 j212 j213 j214 j215 j216 j217 j218 j219 j220 j221 j222 j223 j224 j225 j226 j227 j228 j229 j230 j231 j232 j233 j234 j235 j236 j237 : Value) :
    ∀ K : Act → World → Prop, Code.wp Yba.prog ((Yba.f3.body.bind (afterRegion 51)).getD .skip) (Exit.then K (bodyPost Yba.prog Yba.f3 fun e w' => e = .returned (.bool true) ∧ Below w.heap.size w w'))
      ⟨#[.int .u16 a0, .int .u16 a1, .int .u16 a2, .int .u8 a3, .slice a4 len4 cap4, .slice a5 len5 cap5, .slice a6 len6 cap6, j7, j8, j9, j10, j11, j12, j13, j14, j15, j16, j17, j18, j19, j20, j21, j22, j23, j24, j25, j26, j27, j28, j29, j30, .pointer (some ⟨I, 0, none⟩), j32, undef, undef, undef, undef, undef, undef, undef, undef, undef, undef, undef, j44, j45, j46, j47, j48, j49, j50, j51, j52, j53, j54, j55, j56, j57, j58, j59, j60, j61, j62, j63, j64, j65, j66, j67, j68, j69, j70, j71, j72, j73, j74, j75, j76, j77, j78, j79, j80, j81, j82, j83, j84, j85, j86, j87, j88, j89, j90, j91, j92, j93, j94, j95, j96, j97, j98, j99, j100, j101, j102, j103, j104, j105, j106, j107, j108, j109, j110, j111, j112, j113, j114, j115, j116, j117, j118, j119, j120, j121, j122, j123, j124, j125, j126, j127, j128, j129, j130, j131, j132, j133, j134, j135, j136, j137, j138, j139, j140, j141, j142, j143, j144, j145, j146, j147, j148, j149, j150, j151, j152, j153, j154, j155, j156, j157, j158, j159, j160, j161, j162, j163, j164, j165, j166, j167, j168, j169, j170, j171, j172, j173, j174, j175, j176, j177, j178, j179, j180, j181, j182, j183, j184, j185, j186, j187, j188, j189, j190, j191, j192, j193, j194, j195, j196, j197, j198, j199, j200, j201, j202, j203, j204, j205, j206, j207, j208, j209, j210, j211, j212, j213, j214, j215, j216, j217, j218, j219, j220, j221, j222, j223, j224, j225, j226, j227, j228, j229, j230, j231, j232, j233, j234, j235, j236, j237, .bool true, undef, undef, undef, undef, undef, undef, undef, undef, undef, undef, undef, undef, undef, undef, undef, undef, undef, undef, undef, undef, undef, undef, undef, undef, undef, undef, undef, undef, undef, undef, undef, undef, undef, undef, undef, undef, undef, undef, undef, undef, undef, undef, undef, undef, undef, undef, undef, undef, undef, undef, undef, undef, undef, undef, undef, undef, undef, undef, undef, undef, undef, undef, undef, undef, undef, undef, undef, undef, undef, undef, undef, undef, undef, undef, undef, undef, undef, undef, undef, undef, undef, undef, undef, undef, undef, undef, undef, undef, undef, undef, undef, undef, undef, undef, undef, undef, undef, undef, undef, undef, undef, undef, undef, undef, undef, undef, undef, undef, undef, undef, undef, undef, undef, undef, undef, undef, undef, undef, undef, undef, undef, undef, undef, undef, undef, undef, undef, undef, undef, undef, undef, undef, undef, undef, undef, undef, undef, undef, undef, undef], []⟩ wz := by
  intro K
  obtain ⟨ca, cc, rfl, hread⟩ := row_read (cC a2) (fun _ => rfl) hrow
  have HRD : Hid _ := hread
  have HLW : Hid (Below w.heap.size w wz) := hlow
  clear hread hrow hlow
  have hfl : (firsts z5 len5).length ≤ 1024 := Nat.le_trans (firsts_len _ _) hl5
  conv => arg 2; whnf
  go_wp2_with fail
  go_loopw [33, 247] (fun v i wr => ∃ k : Nat, k ≤ len5 ∧ i = .int .i64 k ∧ v = .int .i64 (firsts z5 k).length ∧ Below wz.heap.size wz wr) (fun _ i _ => len5 - (intOf i).toNat)
  case atStart => exact ⟨0, by omega, rfl, rfl, Below.refl _ _⟩
  case round =>
    obtain ⟨k, hk, rfl, rfl, hB⟩ := hrel
    have d2 : wr.cell? ⟨I, 2, none⟩ = some (.slice ca (firsts z5 len5).length cc) := (hB.cell (p := ⟨I, 2, none⟩) hIl).trans e2
    have hIr : I < wr.heap.size := Nat.lt_of_lt_of_le hIl hB.size
    by_cases hlt : k < len5
    · obtain ⟨b5, off, rfl, hbl, hc⟩ := hz5 k hlt
      obtain ⟨q, hq⟩ : ∃ q, q = z5.getD k 0 := ⟨_, rfl⟩
      have hq0 : 0 ≤ q := by rw [hq]; simpa using (hb5 k).1
      have hq1 : q ≤ 255 := by rw [hq]; simpa using (hb5 k).2
      have hlow : Below w.heap.size w wr := HLW.out.trans (hB.mono HLW.out.size)
      have hc2 : wr.cell? ⟨b5, off + k, none⟩ = some (.int .u8 q) := by rw [hq]; exact (hlow.cell (by exact hbl)).trans hc
      have HQ : Hid (q = z5.getD k 0) := hq
      have hzk := (hz5.take (n := k) (by omega)).later hlow
      have hk0 : (0 : Int) ≤ (k : Int) := by omega
      have hk7 : (k : Int) < (len5 : Int) := by omega
      have hkc : (k : Int) ≤ (cap5 : Int) := by omega
      have HB : Hid (Below wz.heap.size wz wr) := hB
      clear hc hq hlow hB
      go_wp2_with fail
      refine (in_any w.heap.size _ k cap5 z5 q wr hzk hb5 ⟨hq0, hq1⟩ (by omega)).mono ?_
      rintro e w3 ⟨rfl, hw3⟩
      rw [hw3]
      clear hw3 w3
      cases hi : inS z5 k q with
      | true =>
        have HF : Hid (firsts z5 (k + 1) = firsts z5 k) := firsts_old (by rw [← HQ.out]; exact hi)
        go_wp2_with fail
        go_roundw
        case rel => exact ⟨k + 1, by omega, by go_num, by rw [HF.out], HB.out⟩
        case measure => simp [intOf]; omega
      | false =>
        have hat : (firsts z5 len5)[(firsts z5 k).length]? = some (q % 8) := by rw [HQ.out]; exact firsts_at hlt (by rw [← HQ.out]; exact hi)
        have HF : Hid (firsts z5 (k + 1) = firsts z5 k ++ [q % 8]) := by rw [HQ.out]; exact firsts_new (by rw [← HQ.out]; exact hi)
        have hml : (firsts z5 k).length < (firsts z5 len5).length := (List.getElem?_eq_some_iff.1 hat).1
        have hmi : ((firsts z5 k).length : Int) < ((firsts z5 len5).length : Int) := by omega
        have hm0 : (0 : Int) ≤ ((firsts z5 k).length : Int) := by omega
        obtain ⟨g, rfl, hgl, hcells⟩ := HRD.out _ _ hat
        have hgr : g < wr.heap.size := Nat.lt_of_lt_of_le hgl HB.out.size
        have y0 : wr.cell? ⟨g, (firsts z5 k).length * 4, none⟩ = some (.string s1) := (HB.out.cell (p := ⟨g, (firsts z5 k).length * 4, none⟩) hgl).trans (hcells 0 (by omega))
        have y1 : wr.cell? ⟨g, (firsts z5 k).length * 4 + 1, none⟩ = some (.string s2) := (HB.out.cell (p := ⟨g, (firsts z5 k).length * 4 + 1, none⟩) hgl).trans (hcells 1 (by omega))
        have y2 : wr.cell? ⟨g, (firsts z5 k).length * 4 + 2, none⟩ = some (.int .u32 (q % 8)) := (HB.out.cell (p := ⟨g, (firsts z5 k).length * 4 + 2, none⟩) hgl).trans (hcells 2 (by omega))
        have y3 : wr.cell? ⟨g, (firsts z5 k).length * 4 + 3, none⟩ = some (.int .u16 a2) := (HB.out.cell (p := ⟨g, (firsts z5 k).length * 4 + 3, none⟩) hgl).trans (hcells 3 (by omega))
        clear hcells hat hzk hc2
        go_wp2_with fail
        go_region_with (go_at_call 6; refine (cell_any q hq0 hq1 _).mono ?_; rintro e w4 ⟨rfl, hB3⟩; have v0 := (hB3.cell (p := ⟨g, (firsts z5 k).length * 4, none⟩) hgr).trans y0; have v1 := (hB3.cell (p := ⟨g, (firsts z5 k).length * 4 + 1, none⟩) hgr).trans y1; have v2 := (hB3.cell (p := ⟨g, (firsts z5 k).length * 4 + 2, none⟩) hgr).trans y2; have v3 := (hB3.cell (p := ⟨g, (firsts z5 k).length * 4 + 3, none⟩) hgr).trans y3; have v4 := (hB3.cell (p := ⟨I, 2, none⟩) hIr).trans d2; have hI3 : I < w4.heap.size := Nat.lt_of_lt_of_le hIr hB3.size)
        all_goals
          have HB2 : Hid (Below wz.heap.size wz w4) := HB.out.drew.trans (hB3.mono HB.out.size)
          clear hB3 v0 v1 v2 v3 v4 hI3 y0 y1 y2 y3
          go_wp2_with fail
          go_roundw
          case rel => exact ⟨k + 1, by omega, by go_num, by rw [HF.out, List.length_append]; simp, HB2.out⟩
          case measure => simp [intOf]; omega
    · obtain rfl : k = len5 := by omega
      have HLR : Hid (Below w.heap.size w wr) := HLW.out.trans (hB.mono HLW.out.size)
      clear hB
      go_wp2_with fail
      go_ret
      exact ⟨rfl, HLR.out⟩

end Go.Proofs.Ybulkbpkc
