import Derived.Test.YbulkbpkcLawT
namespace Go.Proofs.Ybulkbpkc
open Go.ChangeShapes Go.WideShapes Go.ChangeAt Go.RowKit
set_option linter.unusedVariables false

set_option maxRecDepth 1000000 in
set_option maxHeartbeats 4000000 in
/-- The law from its set of cells on. -/
theorem law_mid (a0 a1 a2 a3 : Int) (a4 : Option Addr) (len4 cap4 : Nat) (z4 : List Int) (a5 : Option Addr) (len5 cap5 : Nat) (z5 : List Int) (a6 : Option Addr) (len6 cap6 : Nat) (z6 : List Int) (a7 : Bool) (w : World) (hz4 : ArgAt w.heap.size w a4 len4 z4) (hb4 : ∀ j : Nat, 0 ≤ z4[j]?.getD 0 ∧ z4[j]?.getD 0 ≤ 255) (hl4 : len4 ≤ 1024) (hz5 : ArgAt w.heap.size w a5 len5 z5) (hb5 : ∀ j : Nat, 0 ≤ z5[j]?.getD 0 ∧ z5[j]?.getD 0 ≤ 255) (hl5 : len5 ≤ 1024) (hc5 : len5 ≤ cap5) (hz6 : ArgAt w.heap.size w a6 len6 z6) (hb6 : ∀ j : Nat, 0 ≤ z6[j]?.getD 0 ∧ z6[j]?.getD 0 ≤ 255) (hl6 : len6 ≤ 1024) (h3 : 0 ≤ a3 ∧ a3 ≤ 255)
    (R1 N nE : Nat) (hnE : a3 % 4 = nE) (VE : Value) (V : Int → Value) (ts : List Int) (wz : World) (hM : MSt w R1 N a2 VE (upto nE) wz) (hS : AreaSt R1 (N + 1) V ts (areaL z4 len4) wz)
    (j18 j20 j21 j44 j45 j46 j47 j48 j49 j50 j51 j52 j53 j54 j55 j56 j57 j58 j59 j60 j61 j62 j63 j64 j65 j66 j67 j68 j69 j70 j71 j72 j73 j74 j75 j76 j77 j78 j79 j80 j81 j82 j83 j84 j85 j86 j87 j88 j89 j90 j91 j92 j93 j94 j95 j96 j97 j98 j99 j100 j101 j102 : Value) :
    Code.wp Yba.prog ((Yba.f3.body.bind (afterRegion 14)).getD .skip) (bodyPost Yba.prog Yba.f3 fun e w' => e = .returned (.bool true) ∧ Below w.heap.size w w')
      ⟨#[.int .u16 a0, .int .u16 a1, .int .u16 a2, .int .u8 a3, .slice a4 len4 cap4, .slice a5 len5 cap5, .slice a6 len6 cap6, .bool a7, undef, undef, undef, undef, undef, undef, undef, undef, .bool false, .pointer (some ⟨N, 0, none⟩), j18, undef, j20, j21, .pointer none, undef, undef, undef, undef, undef, undef, undef, undef, undef, undef, undef, undef, undef, undef, undef, undef, undef, undef, undef, undef, undef, j44, j45, j46, j47, j48, j49, j50, j51, j52, j53, j54, j55, j56, j57, j58, j59, j60, j61, j62, j63, j64, j65, j66, j67, j68, j69, j70, j71, j72, j73, j74, j75, j76, j77, j78, j79, j80, j81, j82, j83, j84, j85, j86, j87, j88, j89, j90, j91, j92, j93, j94, j95, j96, j97, j98, j99, j100, j101, j102, undef, undef, undef, undef, undef, undef, undef, undef, undef, undef, undef, undef, undef, undef, undef, undef, undef, undef, undef, undef, undef, undef, undef, undef, undef, undef, undef, undef, undef, undef, undef, undef, undef, undef, undef, undef, undef, undef, undef, undef, undef, undef, undef, undef, undef, undef, undef, undef, undef, undef, undef, undef, undef, undef, undef, undef, undef, undef, undef, undef, undef, undef, undef, undef, undef, undef, undef, undef, undef, undef, undef, undef, undef, undef, undef, undef, undef, undef, undef, undef, undef, undef, undef, undef, undef, undef, undef, undef, undef, undef, undef, undef, undef, undef, undef, undef, undef, undef, undef, undef, undef, undef, undef, undef, undef, undef, undef, undef, undef, undef, undef, undef, undef, undef, undef, undef, undef, undef, undef, undef, undef, undef, undef, undef, undef, undef, undef, undef, undef, undef, undef, undef, undef, undef, undef, undef, undef, undef, undef, undef, undef, undef, undef, undef, undef, undef, undef, undef, undef, undef, undef, undef, undef, undef, undef, undef, undef, undef, undef, undef, undef, undef, undef, undef, undef, undef, undef, undef, undef, undef, undef, undef, undef, undef, undef, undef, undef, undef, undef, undef, undef, undef, undef, undef, undef, undef, undef, undef, undef, undef, undef, undef, undef, undef, undef, undef, undef, undef, undef, undef, undef, undef, undef, undef, undef, undef, undef, undef, undef, undef, undef, undef, undef, undef, undef, undef, undef, undef, undef, undef, undef, undef, undef, undef, undef, undef, undef, undef, undef, undef, undef, undef, undef, undef, undef, undef, undef, undef, undef, undef, undef, undef, undef, undef, undef, undef, undef, undef, undef, undef, undef, undef, undef, undef, undef, undef, undef, undef, undef, undef, undef, undef, undef, undef, undef, undef, undef, undef, undef, undef, undef, undef, undef, undef, undef, undef], []⟩ wz := by
  have hmm := @run_makeMap Yba.prog
  conv => arg 2; whnf
  cases a7 with
  | true =>
    clear hmm
    go_upto_region 25 with fail
    go_cut [26] from 26 to 26 (fun v wx => v = .slice none 0 0 ∧ wx = wz)
    case first =>
      go_wp2_with fail
      go_meet
      case rel => exact ⟨rfl, rfl⟩
    case rest =>
      obtain ⟨rfl, hwz⟩ := hcut
      rename_i hK
      exact hK _ _ (law_tais a0 a1 a2 a3 a4 len4 cap4 z4 a5 len5 cap5 z5 a6 len6 cap6 z6 w hz4 hb4 hl4 hz5 hb5 hl5 hc5 hz6 hb6 hl6 h3 R1 N nE hnE VE V ts (.pointer none) _ (by rw [hwz]; exact hM) (by rw [hwz]; exact hS) (.inl rfl) _ _ _ _ _ _ _ _ _ _ _ _ _ _ _ _ _ _ _ _ _ _ _ _ _ _ _ _ _ _ _ _ _ _ _ _ _ _ _ _ _ _ _ _ _ _ _ _ _ _ _ _ _ _ _ _ _ _ _ _ _ _ _ _ _ _ _ _ _ _ _ _ _ _ _ _ _ _ _ _ _ _ _ _ _ _ _ _ _ _ _ _ _ _ _ _ _ _ _ _ _ _ _ _ _ _ _ _ _ _ _)
  | false =>
    go_wp2_with fail
    have hSb := Blk.fresh (wz.alloc (.map #[] 0)) #[.slice none 0 0, .map (some wz.heap.size)] 73
    rw [World.size_alloc] at hSb
    have hB1 : Below wz.heap.size wz ((wz.alloc (.map #[] 0)).alloc (.cells #[.slice none 0 0, .map (some wz.heap.size)] 73)) := ((Below.refl _ _).alloc (Nat.le_refl _) _).alloc (by simp) _
    have hA1 : MapAt K32 ((wz.alloc (.map #[] 0)).alloc (.cells #[.slice none 0 0, .map (some wz.heap.size)] 73)) wz.heap.size [] := by
      unfold MapAt
      rw [Below.heap_alloc _ _ _ (by simp)]
      exact heap_alloc_new wz _
    have hs1 : ((wz.alloc (.map #[] 0)).alloc (.cells #[.slice none 0 0, .map (some wz.heap.size)] 73)).heap.size = wz.heap.size + 1 + 1 := by simp
    have hT0 : SetSt wz wz.heap.size (wz.heap.size + 1) (.slice none 0 0) (firsts z5 0) ((wz.alloc (.map #[] 0)).alloc (.cells #[.slice none 0 0, .map (some wz.heap.size)] 73)) :=
      ⟨hSb.congr fun j hj => by
        have hj2 : j < 2 := by simpa using hj
        rcases (show j = 0 ∨ j = 1 from by omega) with rfl | rfl <;> rfl, World.ownsRow_nil _ _ _ _, hA1, hB1, ⟨Nat.le_refl _, by omega, by omega⟩⟩
    obtain ⟨R2, hR2⟩ : ∃ R2, R2 = wz.heap.size := ⟨_, rfl⟩
    obtain ⟨S, hSe⟩ : ∃ S, S = R2 + 1 := ⟨_, rfl⟩
    rw [← hR2] at hT0
    rw [← hSe] at hT0
    rw [← hR2, ← hSe]
    have HR2 : Hid (R2 = wz.heap.size) := hR2
    have HSe : Hid (S = R2 + 1) := hSe
    generalize World.alloc (World.alloc wz _) _ = w1 at hT0 ⊢
    clear hR2 hSe hSb hB1 hA1 hs1 hmm
    obtain ⟨i0, hi, hz0, hz1, hz2⟩ := info_parts Yba.infoE
    go_loopw [110] (fun i wr => ∃ (k : Nat) (VL : Value), k ≤ len5 ∧ i = .int .i64 k ∧ SetSt wz R2 S VL (firsts z5 k) wr) (fun i _ => len5 - (intOf i).toNat)
    case atStart => exact ⟨0, _, by omega, rfl, hT0⟩
    case round =>
      clear hT0
      obtain ⟨k, VL, hk, rfl, hT⟩ := hrel
      by_cases hlt : k < len5
      · obtain ⟨b, off, rfl, hbl, hc⟩ := hz5 k hlt
        obtain ⟨q, hq⟩ : ∃ q, q = z5.getD k 0 := ⟨_, rfl⟩
        have hq0 : 0 ≤ q := by rw [hq]; simpa using (hb5 k).1
        have hq1 : q ≤ 255 := by rw [hq]; simpa using (hb5 k).2
        have hlow : Below w.heap.size w wr := hM.low.trans (hT.low.mono hM.low.size)
        have hc2 : wr.cell? ⟨b, off + k, none⟩ = some (.int .u8 q) := by rw [hq]; exact (hlow.cell (by exact hbl)).trans hc
        have HQ : Hid (q = z5.getD k 0) := hq
        have hk0 : (0 : Int) ≤ (k : Int) := by omega
        have hk7 : (k : Int) < (len5 : Int) := by omega
        clear hc hq hlow
        go_wp2_with fail
        refine (cell_any q hq0 hq1 wr).mono ?_
        rintro e w3 ⟨rfl, hB3⟩
        have hT3 := hT.later hB3
        clear hT hc2
        go_wp2_with fail
        have hQb := Blk.fresh w3 #[.string s1, .string s2, .int .u32 (q % 8)] 68
        have hB4 : Below w3.heap.size w3 (w3.alloc (.cells #[.string s1, .string s2, .int .u32 (q % 8)] 68)) := (Below.refl _ _).alloc (Nat.le_refl _) _
        have hT4 := hT3.later hB4
        have hQl : w3.heap.size < (w3.alloc (.cells #[.string s1, .string s2, .int .u32 (q % 8)] 68)).heap.size := by simp
        obtain ⟨Q, hQe⟩ : ∃ Q, Q = w3.heap.size := ⟨_, rfl⟩
        rw [← hQe] at hQb hQl
        rw [← hQe]
        have hSQ : S < Q := by have := hT3.ord; omega
        generalize World.alloc w3 _ = w4 at hQb hT4 hQl ⊢
        clear hQe hB4 hB3 hT3
        have p0 : w4.cell? ⟨Q, 0, none⟩ = some (.string s1) := hQb.1 0 (by simp)
        have p1 : w4.cell? ⟨Q, 1, none⟩ = some (.string s2) := hQb.1 1 (by simp)
        have p2 : w4.cell? ⟨Q, 2, none⟩ = some (.int .u32 (q % 8)) := hQb.1 2 (by simp)
        have m1 : w4.cell? ⟨S, 1, none⟩ = some (.map (some R2)) := hT4.s.1 1 (by omega)
        have hlk : ∀ n, Sem.run Yba.prog (Instr.lookup 71 (.map (some R2)) (.agg #[.string s1, .string s2, .int .u32 (q % 8)]) false) (w4.drewN n) = .ok (.bool (inS z5 k q)) (w4.drewN n) := fun n => by
          rw [← firsts_in]
          exact set_look hT4.m (firsts_nodup z5 k) (q % 8) _ ⟨rfl, rfl, rfl, Nat.le_refl _, fun _ _ => rfl⟩
        go_quiet (fail)
        cases hin : inS z5 k q with
        | true =>
          have HF : Hid (SetSt wz R2 S VL (firsts z5 (k + 1)) (w4.drewN nq)) := by
            rw [firsts_old (by rw [← HQ.out]; exact hin)]
            exact hT4.later ⟨rfl, rfl, rfl, Nat.le_refl _, fun _ _ => rfl⟩
          clear hT4 hlk
          go_wp2_with fail
          go_roundw
          case rel => exact ⟨k + 1, _, by omega, by go_num, HF.out⟩
          case measure => simp [intOf]; omega
        | false =>
          have hT5 := hT4.later (w' := w4.drewN nq) ⟨rfl, rfl, rfl, Nat.le_refl _, fun _ _ => rfl⟩
          have hQ5 := hQb.drewN nq
          have hQl5 : Q < (w4.drewN nq).heap.size := hQl
          clear hT4 hlk hQb hQl p0 p1 p2 m1
          go_wp2_with fail
          generalize World.drewN w4 nq = w5 at hT5 hQ5 hQl5 ⊢
          have p0 : w5.cell? ⟨Q, 0, none⟩ = some (.string s1) := hQ5.1 0 (by simp)
          have p1 : w5.cell? ⟨Q, 1, none⟩ = some (.string s2) := hQ5.1 1 (by simp)
          have p2 : w5.cell? ⟨Q, 2, none⟩ = some (.int .u32 (q % 8)) := hQ5.1 2 (by simp)
          have m1 : w5.cell? ⟨S, 1, none⟩ = some (.map (some R2)) := hT5.s.1 1 (by omega)
          have hne : ∀ p ∈ (firsts z5 k).map (fun e => (e, Value.bool true)), p.1 ≠ q % 8 := fun p hp e => by
            obtain ⟨s, hs, rfl⟩ := List.mem_map.1 hp
            have hf := firsts_in z5 q k
            rw [hin] at hf
            simp only at e
            subst e
            simp at hf
            exact hf hs
          have hTd := hT5.later (w' := w5.drew) ⟨rfl, rfl, rfl, Nat.le_refl _, fun _ _ => rfl⟩
          have hmu0 := update_miss key68 Yba.underlying71 hTd.m (q % 8) (.bool true) hne
          have hmid := set_put hTd (q % 8)
          have hQm : Blk (w5.drew.putObj R2 (.map (ent K32 ((firsts z5 k).map (fun e => (e, .bool true)) ++ [(q % 8, .bool true)])).toArray (((firsts z5 k).map fun e => (e, Value.bool true)).length + 1))) Q 3 _ := hQ5.drew.kept (put_kp _ _ _) hQl5 (by have := hT5.ord; omega)
          obtain ⟨w6, hw6⟩ : ∃ w6, w6 = (w5.drew.putObj R2 (.map (ent K32 ((firsts z5 k).map (fun e => (e, .bool true)) ++ [(q % 8, .bool true)])).toArray (((firsts z5 k).map fun e => (e, Value.bool true)).length + 1))) := ⟨_, rfl⟩
          have hmu : Sem.run Yba.prog (Instr.mapUpdate 71 (.map (some R2)) (.agg #[.string s1, .string s2, .int .u32 (q % 8)]) (.bool true)) w5.drew = .ok () w6 := by rw [hw6]; exact hmu0
          rw [← hw6] at hmid hQm
          clear hw6 hmu0 hTd hT5 hQ5 hne
          go_region
          go_wp2_with fail
          clear hmu p0 p1 p2 m1
          have p0 : w6.cell? ⟨Q, 0, none⟩ = some (.string s1) := hQm.1 0 (by simp)
          have p1 : w6.cell? ⟨Q, 1, none⟩ = some (.string s2) := hQm.1 1 (by simp)
          have p2 : w6.cell? ⟨Q, 2, none⟩ = some (.int .u32 (q % 8)) := hQm.1 2 (by simp)
          have m0 : w6.cell? ⟨S, 0, none⟩ = some VL := hmid.s.1 0 (by omega)
          have hS6 : S < w6.heap.size := hmid.ord.2.2
          have hQ6 : Q < w6.heap.size := hQm.lt (by simp)
          have HMD : Hid (SetMid wz R2 S VL (firsts z5 k) (firsts z5 k ++ [q % 8]) w6) := hmid
          have hfl : (firsts z5 k).length ≤ 1024 := Nat.le_trans (firsts_len _ _) (by omega)
          have HFN : Hid (firsts z5 (k + 1) = firsts z5 k ++ [q % 8]) := by
            have h := firsts_new (z := z5) (n := k) (by rw [← HQ.out]; exact hin)
            rw [← HQ.out] at h
            exact h
          clear hmid hQm
          go_region_law ((refine step_append_lies _ (by rfl) _ _ 66 (by rfl) (S + 1) 68 i0 _ 3 40 Yba.underlying66 hi hz0 hz1 hz2 rfl (by omega) VL (firsts z5 k).length ((firsts z5 k).flatMap cE) (by rfl) ((HMD.out.row.alloc _).drew) ⟨w6.heap.size, 0, none⟩ 1 1 (cE (q % 8)) (by rfl) (by rfl) (World.news_of_block (cs := #[.string s1, .string s2, .int .u32 (q % 8)]) (t := 68) (fr := (0, 0)) (heap_alloc_new w6 _)) (by simp [cE, Value.oneCell']) (by omega) (by unfold maxLen; omega) (by omega) (by simp; omega) (w6.heap.size + 1) (by simp) ?_; intro g' cap' w7 hown hgrow hgb hgl'; have HF : Hid _ := set_step HMD.out hown hgrow; have e3 := HF.out.1; have e3f := HF.out.2.1; clear hown hgrow hgb hgl'))
          all_goals
            have HG : Hid (SetSt wz R2 S (.slice (some ⟨g', 0, none⟩) ((firsts z5 k).length + 1) cap') (firsts z5 (k + 1)) (w7.setCell ⟨S, 0, none⟩ (.slice (some ⟨g', 0, none⟩) ((firsts z5 k).length + 1) cap'))) := by
              rw [HFN.out]; exact HF.out.2.2
            clear HF e3 e3f
            go_wp2
            go_roundw
            case rel => exact ⟨k + 1, _, by omega, by go_num, HG.out⟩
            case measure => simp [intOf]; omega
      · obtain rfl : k = len5 := by omega
        have HT : Hid (SetSt wz R2 S VL (firsts z5 k) wr) := hT
        clear hT
        have HF : Hid (MSt w R1 N a2 VE (upto nE) wr ∧ AreaSt R1 (N + 1) V ts (areaL z4 len4) wr ∧ CsSt (.pointer (some ⟨S, 0, none⟩)) (firsts z5 k) wr) := ⟨hM.later HT.out.low, hS.later HT.out.low, .inr ⟨R2, S, VL, _, rfl, HT.out.s, HT.out.row, HT.out.m⟩⟩
        go_upto_region 25 with fail
        go_cut [26] from 26 to 26 (fun v wx => v = .slice none 0 0 ∧ wx = wr)
        case first =>
          go_wp2_with fail
          go_meet
          case rel => exact ⟨rfl, rfl⟩
        case rest =>
          obtain ⟨rfl, hwz⟩ := hcut
          have HF2 : Hid (MSt w R1 N a2 VE (upto nE) wc ∧ AreaSt R1 (N + 1) V ts (areaL z4 len4) wc ∧ CsSt (.pointer (some ⟨S, 0, none⟩)) (firsts z5 k) wc) := by rw [hwz]; exact HF.out
          clear hwz
          rename_i hK
          exact hK _ _ (law_tais a0 a1 a2 a3 a4 len4 cap4 z4 a5 k cap5 z5 a6 len6 cap6 z6 w hz4 hb4 hl4 hz5 hb5 hl5 hc5 hz6 hb6 hl6 h3 R1 N nE hnE VE V ts (.pointer (some ⟨S, 0, none⟩)) wc HF2.out.1 HF2.out.2.1 HF2.out.2.2 _ _ _ _ _ _ _ _ _ _ _ _ _ _ _ _ _ _ _ _ _ _ _ _ _ _ _ _ _ _ _ _ _ _ _ _ _ _ _ _ _ _ _ _ _ _ _ _ _ _ _ _ _ _ _ _ _ _ _ _ _ _ _ _ _ _ _ _ _ _ _ _ _ _ _ _ _ _ _ _ _ _ _ _ _ _ _ _ _ _ _ _ _ _ _ _ _ _ _ _ _ _ _ _ _ _ _ _ _ _ _)

end Go.Proofs.Ybulkbpkc
