import Derived.Test.YbulkbpkcLawF
import Derived.Test.YbulkbpkcLawG
namespace Go.Proofs.Ybulkbpkc
open Go.ChangeShapes Go.WideShapes Go.ChangeAt Go.RowKit
set_option linter.unusedVariables false

/-- What stands behind 'cancellation'. -/
structure EndC (w : World) (a0 a1 cb : Int) (z4 : List Int) (len4 : Nat) (z5 : List Int) (len5 : Nat) (z6 : List Int) (len6 : Nat) (nE I : Nat) (X LN C T VE : Value) (wr : World) : Prop where
  i : Blk wr I 5 (indC a0 a1 C T VE)
  e : ∃ b, wr.ownsRow b 61 4 VE (upto nE).length ((upto nE).flatMap cB)
  low : Below w.heap.size w wr
  how : (X = .pointer none ∧ C = .slice none 0 0 ∧ T = .slice none 0 0) ∨
    (∃ S VL R2 la lc, X = .pointer (some ⟨S, 0, none⟩) ∧ LN = .int .i64 (firsts z5 len5).length ∧ VL = .slice la (firsts z5 len5).length lc ∧ Blk wr S 2 (setC VL R2) ∧
      ((len6 = 0 ∧ T = .slice none 0 0 ∧ ∃ b, wr.ownsRow b 86 4 C (firsts z5 len5).length ((firsts z5 len5).flatMap (cC cb))) ∨
       (0 < len6 ∧ C = .slice none 0 0 ∧ ∃ b OV, OutSt b cb T OV wr ∧ OV.map (fun x => (x.1, x.2.1)) = named (areaL z4 len4) (fun e => (firsts z5 len5).contains e) (taisL z6 len6))))

theorem EndC.later {w : World} {a0 a1 cb : Int} {z4 : List Int} {len4 : Nat} {z5 : List Int} {len5 : Nat} {z6 : List Int} {len6 nE I : Nat} {X LN C T VE : Value} {wr w' : World} (h : EndC w a0 a1 cb z4 len4 z5 len5 z6 len6 nE I X LN C T VE wr) (hb : Below wr.heap.size wr w') : EndC w a0 a1 cb z4 len4 z5 len5 z6 len6 nE I X LN C T VE w' := by
  obtain ⟨b0, he⟩ := h.e
  refine ⟨h.i.below hb (h.i.lt (by omega)), ⟨b0, owns_later he hb⟩, h.low.trans (hb.mono h.low.size), ?_⟩
  rcases h.how with h1 | ⟨S, VL, R2, la, lc, h1, h2, h3, h4, h5⟩
  · exact .inl h1
  · refine .inr ⟨S, VL, R2, la, lc, h1, h2, h3, h4.below hb (h4.lt (by omega)), ?_⟩
    rcases h5 with ⟨h6, h7, b, h8⟩ | ⟨h6, h7, b, OV, h8, h9⟩
    · exact .inl ⟨h6, h7, b, owns_later h8 hb⟩
    · exact .inr ⟨h6, h7, b, OV, h8.later hb, h9⟩

attribute [local go_sem ↓] eq61 eq86 eq63'
attribute [local go_sem] guard61 guard86 guard63

set_option maxRecDepth 1000000 in
set_option maxHeartbeats 4000000 in
/-- The law behind 'cancellation'. -/
theorem law_tail (a0 a1 a2 a3 : Int) (a4 : Option Addr) (len4 cap4 : Nat) (z4 : List Int) (a5 : Option Addr) (len5 cap5 : Nat) (z5 : List Int) (a6 : Option Addr) (len6 cap6 : Nat) (z6 : List Int) (w : World) (hz4 : ArgAt w.heap.size w a4 len4 z4) (hb4 : ∀ j : Nat, 0 ≤ z4[j]?.getD 0 ∧ z4[j]?.getD 0 ≤ 255) (hl4 : len4 ≤ 1024) (hz5 : ArgAt w.heap.size w a5 len5 z5) (hb5 : ∀ j : Nat, 0 ≤ z5[j]?.getD 0 ∧ z5[j]?.getD 0 ≤ 255) (hl5 : len5 ≤ 1024) (hc5 : len5 ≤ cap5) (hz6 : ArgAt w.heap.size w a6 len6 z6) (hb6 : ∀ j : Nat, 0 ≤ z6[j]?.getD 0 ∧ z6[j]?.getD 0 ≤ 255) (hl6 : len6 ≤ 1024) (h3 : 0 ≤ a3 ∧ a3 ≤ 255)
    (nE I : Nat) (hnE : a3 % 4 = nE) (X LN C T VE : Value) (wz : World) (hE : EndC w a0 a1 a2 z4 len4 z5 len5 z6 len6 nE I X LN C T VE wz)
    (j7 j8 j9 j10 j11 j12 j13 j14 j15 j17 j18 j19 j20 j21 j23 j24 j25 j26 j27 j28 j29 j44 j45 j46 j47 j48 j49 j50 j51 j52 j53 j54 j55 j56 j57 j58 j59 j60 j61 j62 j63 j64 j65 j66 j67 j68 j69 j70 j71 j72 j73 j74 j75 j76 j77 j78 j79 j80 j81 j82 j83 j84 j85 j86 j87 j88 j89 j90 j91 j92 j93 j94 j95 j96 j97 j98 j99 j100 j101 j102 j103 j104 j105 j106 j107 j108 j109 j110 j111 j112 j113 j114 j115 j116 j117 j118 j119 j120 j121 j122 j123 j124 j125 j126 j127 j128 j129 j130 j131 j132 j133 j134 j135 j136 j137 j138 j139 j140 j141 j142 j143 j144 j145 j146 j147 j148 j149 j150 j151 j152 j153 j154 j155 j156 j157 j158 j159 j160 j161 j162 j163 j164 j165 j166 : Value) :
    Code.wp Yba.prog ((Yba.f3.body.bind (afterRegion 35)).getD .skip) (bodyPost Yba.prog Yba.f3 fun e w' => e = .returned (.bool true) ∧ Below w.heap.size w w')
      ⟨#[.int .u16 a0, .int .u16 a1, .int .u16 a2, .int .u8 a3, .slice a4 len4 cap4, .slice a5 len5 cap5, .slice a6 len6 cap6, j7, j8, j9, j10, j11, j12, j13, j14, j15, .bool false, j17, j18, j19, j20, j21, X, j23, j24, j25, j26, j27, j28, j29, LN, .pointer (some ⟨I, 0, none⟩), undef, undef, undef, undef, undef, undef, undef, undef, undef, undef, undef, undef, j44, j45, j46, j47, j48, j49, j50, j51, j52, j53, j54, j55, j56, j57, j58, j59, j60, j61, j62, j63, j64, j65, j66, j67, j68, j69, j70, j71, j72, j73, j74, j75, j76, j77, j78, j79, j80, j81, j82, j83, j84, j85, j86, j87, j88, j89, j90, j91, j92, j93, j94, j95, j96, j97, j98, j99, j100, j101, j102, j103, j104, j105, j106, j107, j108, j109, j110, j111, j112, j113, j114, j115, j116, j117, j118, j119, j120, j121, j122, j123, j124, j125, j126, j127, j128, j129, j130, j131, j132, j133, j134, j135, j136, j137, j138, j139, j140, j141, j142, j143, j144, j145, j146, j147, j148, j149, j150, j151, j152, j153, j154, j155, j156, j157, j158, j159, j160, j161, j162, j163, j164, j165, j166, undef, undef, undef, undef, undef, undef, undef, undef, undef, undef, undef, undef, undef, undef, undef, undef, undef, undef, undef, undef, undef, undef, undef, undef, undef, undef, undef, undef, undef, undef, undef, undef, undef, undef, undef, undef, undef, undef, undef, undef, undef, undef, undef, undef, undef, undef, undef, undef, undef, undef, undef, undef, undef, undef, undef, undef, undef, undef, undef, undef, undef, undef, undef, undef, undef, undef, undef, undef, undef, undef, undef, undef, undef, undef, undef, undef, undef, undef, undef, undef, undef, undef, undef, undef, undef, undef, undef, undef, undef, undef, undef, undef, undef, undef, undef, undef, undef, undef, undef, undef, undef, undef, undef, undef, undef, undef, undef, undef, undef, undef, undef, undef, undef, undef, undef, undef, undef, undef, undef, undef, undef, undef, undef, undef, undef, undef, undef, undef, undef, undef, undef, undef, undef, undef, undef, undef, undef, undef, undef, undef, undef, undef, undef, undef, undef, undef, undef, undef, undef, undef, undef, undef, undef, undef, undef, undef, undef, undef, undef, undef, undef, undef, undef, undef, undef, undef, undef, undef, undef, undef, undef, undef, undef, undef, undef, undef, undef, undef, undef, undef, undef, undef, undef, undef, undef, undef, undef, undef, undef, undef, undef, undef, undef, undef, undef, undef, undef, undef, undef, undef, undef, undef, undef, undef, undef, undef, undef, undef, undef, undef, undef, undef], []⟩ wz := by
  obtain ⟨b0, hVE⟩ := hE.e
  obtain ⟨ea, ec, rfl, hread⟩ := row_read cB (fun _ => rfl) hVE
  have hul := upto_len nE
  have i0 : wz.cell? ⟨I, 0, none⟩ = some (.int .u16 a0) := hE.i.1 0 (by omega)
  have i1 : wz.cell? ⟨I, 1, none⟩ = some (.int .u16 a1) := hE.i.1 1 (by omega)
  have i4 : wz.cell? ⟨I, 4, none⟩ = some (.slice ea (upto nE).length ec) := hE.i.1 4 (by omega)
  rw [hul] at i4
  have hIl := hE.i.lt (by omega)
  have HRD : Hid _ := hread
  have HLW : Hid (Below w.heap.size w wz) := hE.low
  have hnE4 : nE < 4 := by omega
  clear hread hVE hul
  conv => arg 2; whnf
  go_wp2_with fail
  have HNE : Hid (a3 % 4 = nE) := hnE
  clear hnE
  go_loopw [32] (fun i wr => ∃ k : Nat, k ≤ nE ∧ i = .int .i64 k ∧ Below wz.heap.size wz wr) (fun i _ => nE - (intOf i).toNat)
  case atStart => exact ⟨0, by omega, rfl, Below.refl _ _⟩
  case round =>
    obtain ⟨k, hk, rfl, hB⟩ := hrel
    have e4 : wr.cell? ⟨I, 4, none⟩ = some (.slice ea nE ec) := (hB.cell (p := ⟨I, 4, none⟩) hIl).trans i4
    have hIr : I < wr.heap.size := Nat.lt_of_lt_of_le hIl hB.size
    by_cases hlt : k < nE
    · obtain ⟨g, rfl, hgl, hcells⟩ := HRD.out k k (by simp [upto, hlt])
      have hgr : g < wr.heap.size := Nat.lt_of_lt_of_le hgl hB.size
      have y0 : wr.cell? ⟨g, k * 4, none⟩ = some (.string s1) := (hB.cell (p := ⟨g, k * 4, none⟩) hgl).trans (hcells 0 (by omega))
      have y1 : wr.cell? ⟨g, k * 4 + 1, none⟩ = some (.string s2) := (hB.cell (p := ⟨g, k * 4 + 1, none⟩) hgl).trans (hcells 1 (by omega))
      have y2 : wr.cell? ⟨g, k * 4 + 2, none⟩ = some (.int .u32 k) := (hB.cell (p := ⟨g, k * 4 + 2, none⟩) hgl).trans (hcells 2 (by omega))
      have y3 : wr.cell? ⟨g, k * 4 + 3, none⟩ = some (.bool false) := (hB.cell (p := ⟨g, k * 4 + 3, none⟩) hgl).trans (hcells 3 (by omega))
      have hk0 : (0 : Int) ≤ (k : Int) := by omega
      have hk7 : (k : Int) < (nE : Int) := by omega
      have hkw : IntKind.u32.wrap (k : Int) = k := IntWalk.u32_in (k : Int) ⟨by omega, by omega⟩
      have HB : Hid (Below wz.heap.size wz wr) := hB
      clear hcells hB
      go_wp2_with fail
      go_region_with (go_at_call 4; refine (plmn_any _).mono ?_; rintro e w3 ⟨rfl, hB3⟩; have v0 := (hB3.cell (p := ⟨g, k * 4, none⟩) hgr).trans y0; have v1 := (hB3.cell (p := ⟨g, k * 4 + 1, none⟩) hgr).trans y1; have v2 := (hB3.cell (p := ⟨g, k * 4 + 2, none⟩) hgr).trans y2; have v3 := (hB3.cell (p := ⟨g, k * 4 + 3, none⟩) hgr).trans y3; have v4 := (hB3.cell (p := ⟨I, 4, none⟩) hIr).trans e4; have hI3 : I < w3.heap.size := Nat.lt_of_lt_of_le hIr hB3.size)
      all_goals
        have HB2 : Hid (Below wz.heap.size wz w3) := HB.out.drew.trans (hB3.mono HB.out.size)
        clear hB3 v0 v1 v2 v3 v4 hI3 y0 y1 y2 y3 e4
        go_wp2_with fail
        go_roundw
        case rel => exact ⟨k + 1, by omega, by go_num, HB2.out⟩
        case measure => simp [intOf]; omega
    · obtain rfl : k = nE := by omega
      have hE2 : EndC w a0 a1 a2 z4 len4 z5 len5 z6 len6 k I X LN C T (.slice ea (upto k).length ec) wr := hE.later hB
      have e2 : wr.cell? ⟨I, 2, none⟩ = some C := hE2.i.1 2 (by omega)
      have e3 : wr.cell? ⟨I, 3, none⟩ = some T := hE2.i.1 3 (by omega)
      have HE2 : Hid (EndC w a0 a1 a2 z4 len4 z5 len5 z6 len6 k I X LN C T (.slice ea (upto k).length ec) wr) := hE2
      have HL2 : Hid (Below w.heap.size w wr) := hE2.low
      clear hE i0 i1 i4 HRD HLW hB
      rcases hE2.how with ⟨rfl, rfl, rfl⟩ | ⟨S, VL, R2, la, lc, rfl, rfl, rfl, hSb, hC⟩
      · clear hE2
        go_wp2_with fail
        go_ret
        exact ⟨rfl, HL2.out⟩
      · clear hE2
        have q0 : wr.cell? ⟨S, 0, none⟩ = some (.slice la (firsts z5 len5).length lc) := hSb.1 0 (by omega)
        have hSl := hSb.lt (by omega)
        rcases hC with ⟨h60, rfl, b, hrow⟩ | ⟨h60, rfl, b, OV, hO, hOV⟩
        · have HROW : Hid _ := hrow
          have HH : Hid (len6 = 0) := h60
          have h6z : ((len6 : Int) == 0) = true := by simp [h60]
          clear hrow h60
          have HF : Hid (wr.ownsRow b 86 4 C (firsts z5 len5).length ((firsts z5 len5).flatMap (cC a2)) ∧ wr.cell? ⟨I, 2, none⟩ = some C ∧ wr.cell? ⟨I, 3, none⟩ = some (.slice none 0 0) ∧ I < wr.heap.size ∧ Below w.heap.size w wr) := ⟨HROW.out, e2, e3, hIr, HL2.out⟩
          go_upto_region 51 with fail
          go_cut [238] from 236 to 238 (fun v wx => v = .bool true ∧ wx = wr)
          case first =>
            go_wp2_with fail
            go_meet
            case rel => exact ⟨rfl, rfl⟩
          case rest =>
            obtain ⟨rfl, hwz⟩ := hcut
            have HF2 : Hid (wc.ownsRow b 86 4 C (firsts z5 len5).length ((firsts z5 len5).flatMap (cC a2)) ∧ wc.cell? ⟨I, 2, none⟩ = some C ∧ wc.cell? ⟨I, 3, none⟩ = some (.slice none 0 0) ∧ I < wc.heap.size ∧ Below w.heap.size w wc) := by rw [hwz]; exact HF.out
            clear hwz
            rename_i hK
            exact hK _ _ (law_cells a0 a1 a2 a3 a4 len4 cap4 z4 a5 len5 cap5 z5 a6 len6 cap6 z6 w hz4 hb4 hl4 hz5 hb5 hl5 hc5 hz6 hb6 hl6 I b C wc HF2.out.2.2.2.1 HF2.out.2.1 HF2.out.2.2.1 HF2.out.1 HF2.out.2.2.2.2 _ _ _ _ _ _ _ _ _ _ _ _ _ _ _ _ _ _ _ _ _ _ _ _ _ _ _ _ _ _ _ _ _ _ _ _ _ _ _ _ _ _ _ _ _ _ _ _ _ _ _ _ _ _ _ _ _ _ _ _ _ _ _ _ _ _ _ _ _ _ _ _ _ _ _ _ _ _ _ _ _ _ _ _ _ _ _ _ _ _ _ _ _ _ _ _ _ _ _ _ _ _ _ _ _ _ _ _ _ _ _ _ _ _ _ _ _ _ _ _ _ _ _ _ _ _ _ _ _ _ _ _ _ _ _ _ _ _ _ _ _ _ _ _ _ _ _ _ _ _ _ _ _ _ _ _ _ _ _ _ _ _ _ _ _ _ _ _ _ _ _ _ _ _ _ _ _ _ _ _ _ _ _ _ _ _ _ _ _ _ _ _ _ _ _ _ _ _ _ _ _ _ _ _ _ _ _ _ _ _ _ _ _ _ _ _ _ _ _ _)
        · have HO : Hid _ := hO
          have HOV : Hid _ := hOV
          have h6z : ((len6 : Int) == 0) = false := by rw [beq_eq_false_iff_ne]; omega
          clear hO hOV
          have HF : Hid (OutSt b a2 T OV wr ∧ OV.map (fun x => (x.1, x.2.1)) = named (areaL z4 len4) (fun e => (firsts z5 len5).contains e) (taisL z6 len6) ∧ wr.cell? ⟨I, 3, none⟩ = some T ∧ I < wr.heap.size ∧ Below w.heap.size w wr) := ⟨HO.out, HOV.out, e3, hIr, HL2.out⟩
          go_upto_region 68 with fail
          go_cut [36] from 36 to 36 (fun v wx => v = .int .i64 0 ∧ wx = wr)
          case first =>
            go_wp2_with fail
            go_meet
            case rel => exact ⟨rfl, rfl⟩
          case rest =>
            obtain ⟨rfl, hwz⟩ := hcut
            have HF2 : Hid (OutSt b a2 T OV wc ∧ OV.map (fun x => (x.1, x.2.1)) = named (areaL z4 len4) (fun e => (firsts z5 len5).contains e) (taisL z6 len6) ∧ wc.cell? ⟨I, 3, none⟩ = some T ∧ I < wc.heap.size ∧ Below w.heap.size w wc) := by rw [hwz]; exact HF.out
            clear hwz
            rename_i hK
            exact hK _ _ (law_areas a0 a1 a2 a3 a4 len4 cap4 z4 a5 len5 cap5 z5 a6 len6 cap6 z6 w hz4 hb4 hl4 hz5 hb5 hl5 hc5 hz6 hb6 hl6 I b T OV wc HF2.out.2.2.2.1 HF2.out.2.2.1 HF2.out.1 HF2.out.2.1 HF2.out.2.2.2.2 _ _ _ _ _ _ _ _ _ _ _ _ _ _ _ _ _ _ _ _ _ _ _ _ _ _ _ _ _ _ _ _ _ _ _ _ _ _ _ _ _ _ _ _ _ _ _ _ _ _ _ _ _ _ _ _ _ _ _ _ _ _ _ _ _ _ _ _ _ _ _ _ _ _ _ _ _ _ _ _ _ _ _ _ _ _ _ _ _ _ _ _ _ _ _ _ _ _ _ _ _ _ _ _ _ _ _ _ _ _ _ _ _ _ _ _ _ _ _ _ _ _ _ _ _ _ _ _ _ _ _ _ _ _ _ _ _ _ _ _ _ _ _ _ _ _ _ _ _ _ _ _ _ _ _ _ _ _ _ _ _ _ _ _ _ _ _ _ _ _ _ _ _ _ _ _ _ _ _ _ _ _ _ _ _ _ _ _ _ _ _ _ _ _ _ _ _ _ _ _ _ _ _ _ _ _ _ _ _ _ _ _ _ _ _ _ _ _ _ _ _ _ _ _ _ _)

end Go.Proofs.Ybulkbpkc
