import Derived.Test.YbulkbpcaGreatStepA
import Derived.BigQuiet
namespace Go.Proofs.YbulkbpcaGreat
open Go.ChangeShapes Go.WideShapes Go.ChangeAt Go.RowKit
set_option linter.unusedVariables false
attribute [local go_sem ↓] eq_peer
attribute [local go_sem] guard_peer field_key peq_self rowL_drew rowL_drewN rowL_alloc rowL_setCell load_sent sent_cells store_sent store_sentD store_sent2 store_sent2D
attribute [local go_sem high] rowL_alloc2
attribute [local go_sem ↓] load_sent0 store_sent0

set_option maxRecDepth 1000000 in
set_option maxHeartbeats 4000000 in
/-- The law behind the tick. -/
theorem step_tail (w : World) (H N Ww Wa Wu Wt : Nat) (f b : Tb) (V : Value) (ls : List (List Value)) (os : List Value) (wz : World) (hE : EndSt w H N Ww Wa Wu Wt f b V ls os wz) (j0 j1 j2 j3 j4 j5 j6 j7 j8 j9 j10 j11 j12 j13 j14 j15 j16 j17 j18 j19 j20 j21 j24 j26 j27 j28 j29 j30 j31 j32 j33 j34 j35 j41 j42 j43 j44 j45 j46 j47 j48 j49 j55 j56 j57 j58 j59 j60 j61 j62 j63 j64 j65 j66 j67 j68 j69 j70 j71 j72 j73 j74 j75 j76 j77 j78 j79 j80 j81 j82 j83 j84 j85 j86 j87 j88 j89 j90 j91 j92 j93 j94 j95 j96 j97 j98 j99 j100 j101 j102 j103 j104 j105 j106 j107 j108 j109 j110 j111 j112 j113 j114 j115 j116 j117 j118 j119 j120 j121 j122 j123 j124 j125 j126 j127 j128 j129 j130 j131 j132 j133 j134 j135 j136 j137 j138 j139 j140 j141 j142 j143 j144 j145 j146 j147 j148 j149 j150 j151 j152 j153 j154 j155 j156 j157 j158 j159 j160 j161 j162 j163 j164 j165 j166 j167 j168 j169 j170 j171 j172 j173 j174 j175 j176 j177 j178 j179 j180 j181 j182 j183 j184 j185 j186 j187 j188 j189 j190 j191 j192 j193 j194 j195 j196 j197 j198 j199 j200 j201 j202 j203 j204 j205 j206 j207 j208 j209 j210 j211 j212 j213 j214 j215 j216 j217 j218 j219 j220 j221 j222 j223 j224 j225 j226 j227 j228 j229 j230 j231 j232 j233 j234 j235 j236 j237 j238 j239 j240 j241 j242 j243 j244 j245 j246 j247 j248 j249 j250 j251 j252 j253 j254 j255 j256 j257 j258 j259 j260 j261 j262 j263 j264 j265 j266 j267 j268 j269 j270 j271 j272 j273 j274 j275 j276 j277 j278 j279 j280 j281 j282 j283 j284 j285 j286 j287 j288 j289 j290 j291 j292 j293 : Value) :
    Code.wp Ybaz.prog ((Ybaz.f3.body.bind (afterRegion 67)).getD .skip) (bodyPost Ybaz.prog Ybaz.f3 fun e w' => e = .returned (.bool true) ∧ Below w.heap.size w w')
      ⟨#[j0, j1, j2, j3, j4, j5, j6, j7, j8, j9, j10, j11, j12, j13, j14, j15, j16, j17, j18, j19, j20, j21, .bool false, .pointer (some ⟨H, 0, none⟩), j24, .pointer (some ⟨N, 0, none⟩), j26, j27, j28, j29, j30, j31, j32, j33, j34, j35, V, .pointer (some ⟨Ww, 0, none⟩), .pointer (some ⟨Wa, 0, none⟩), .pointer (some ⟨Wu, 0, none⟩), .pointer (some ⟨Wt, 0, none⟩), j41, j42, j43, j44, j45, j46, j47, j48, j49, undef, undef, undef, undef, undef, j55, j56, j57, j58, j59, j60, j61, j62, j63, j64, j65, j66, j67, j68, j69, j70, j71, j72, j73, j74, j75, j76, j77, j78, j79, j80, j81, j82, j83, j84, j85, j86, j87, j88, j89, j90, j91, j92, j93, j94, j95, j96, j97, j98, j99, j100, j101, j102, j103, j104, j105, j106, j107, j108, j109, j110, j111, j112, j113, j114, j115, j116, j117, j118, j119, j120, j121, j122, j123, j124, j125, j126, j127, j128, j129, j130, j131, j132, j133, j134, j135, j136, j137, j138, j139, j140, j141, j142, j143, j144, j145, j146, j147, j148, j149, j150, j151, j152, j153, j154, j155, j156, j157, j158, j159, j160, j161, j162, j163, j164, j165, j166, j167, j168, j169, j170, j171, j172, j173, j174, j175, j176, j177, j178, j179, j180, j181, j182, j183, j184, j185, j186, j187, j188, j189, j190, j191, j192, j193, j194, j195, j196, j197, j198, j199, j200, j201, j202, j203, j204, j205, j206, j207, j208, j209, j210, j211, j212, j213, j214, j215, j216, j217, j218, j219, j220, j221, j222, j223, j224, j225, j226, j227, j228, j229, j230, j231, j232, j233, j234, j235, j236, j237, j238, j239, j240, j241, j242, j243, j244, j245, j246, j247, j248, j249, j250, j251, j252, j253, j254, j255, j256, j257, j258, j259, j260, j261, j262, j263, j264, j265, j266, j267, j268, j269, j270, j271, j272, j273, j274, j275, j276, j277, j278, j279, j280, j281, j282, j283, j284, j285, j286, j287, j288, j289, j290, j291, j292, j293, undef, undef, undef, undef, undef, undef, undef, undef, undef, undef, undef, undef, undef, undef, undef, undef, undef, undef, undef, undef, undef, undef, undef, undef, undef, undef, undef, undef, undef, undef, undef, undef, undef, undef, undef, undef, undef, undef, undef, undef, undef, undef, undef, undef, undef, undef, undef, undef, undef, undef, undef, undef, undef, undef, undef, undef, undef, undef, undef, undef, undef, undef, undef, undef, undef, undef, undef, undef, undef, undef, undef, undef, undef, undef, undef, undef, undef, undef, undef, undef, undef, undef, undef, undef, undef, undef, undef, undef, undef, undef, undef, undef, undef, undef, undef, undef, undef, undef, undef, undef, undef, undef, undef, undef, undef, undef, undef, undef, undef, undef, undef, undef, undef, undef, undef, undef, undef, undef, undef, undef, undef, undef, undef, undef, undef, undef, undef, undef, undef, undef, undef, undef, undef, undef, undef, undef, undef, undef, undef, undef, undef, undef, undef, undef, undef, undef, undef, undef, undef, undef, undef, undef, undef, undef, undef, undef, undef, undef, undef, undef, undef, undef, undef, undef, undef, undef, undef, undef, undef, undef, undef, undef, undef, undef, undef, undef, undef, undef, undef, undef, undef, undef, undef, undef, undef], []⟩ wz := by
  obtain ⟨c, hn, c14, hf, hb⟩ := hE.n
  have e14 : wz.cell? ⟨N, 14, none⟩ = some (.int .i64 1) := (hn.1 14 (by omega)).trans (by rw [c14])
  have e24 : wz.cell? ⟨N, 24, none⟩ = some (.int .i64 f.k) := (hn.1 24 (by omega)).trans (by rw [hf.w])
  have e25 : wz.cell? ⟨N, 25, none⟩ = some (.string f.qk) := (hn.1 25 (by omega)).trans (by rw [hf.qk])
  have e26 : wz.cell? ⟨N, 26, none⟩ = some (.string f.qa) := (hn.1 26 (by omega)).trans (by rw [hf.qa])
  have e27 : wz.cell? ⟨N, 27, none⟩ = some (.int .i64 f.u) := (hn.1 27 (by omega)).trans (by rw [hf.u])
  have e28 : wz.cell? ⟨N, 28, none⟩ = some (.int .u64 f.t) := (hn.1 28 (by omega)).trans (by rw [hf.t])
  have e35 : wz.cell? ⟨N, 35, none⟩ = some (.int .i64 b.k) := (hn.1 35 (by omega)).trans (by rw [hb.w])
  have e36 : wz.cell? ⟨N, 36, none⟩ = some (.string b.qk) := (hn.1 36 (by omega)).trans (by rw [hb.qk])
  have e37 : wz.cell? ⟨N, 37, none⟩ = some (.string b.qa) := (hn.1 37 (by omega)).trans (by rw [hb.qa])
  have e38 : wz.cell? ⟨N, 38, none⟩ = some (.int .i64 b.u) := (hn.1 38 (by omega)).trans (by rw [hb.u])
  have e39 : wz.cell? ⟨N, 39, none⟩ = some (.int .u64 b.t) := (hn.1 39 (by omega)).trans (by rw [hb.t])
  have w0 : wz.cell? ⟨Ww, 0, none⟩ = some (.int .i64 f.k) := hE.ww.1 0 (by omega)
  have w1 : wz.cell? ⟨Ww, 1, none⟩ = some (.int .i64 b.k) := hE.ww.1 1 (by omega)
  have x0 : wz.cell? ⟨Wa, 0, none⟩ = some (.string f.qk) := hE.wa.1 0 (by omega)
  have x1 : wz.cell? ⟨Wa, 1, none⟩ = some (.string f.qa) := hE.wa.1 1 (by omega)
  have x2 : wz.cell? ⟨Wa, 2, none⟩ = some (.string b.qk) := hE.wa.1 2 (by omega)
  have x3 : wz.cell? ⟨Wa, 3, none⟩ = some (.string b.qa) := hE.wa.1 3 (by omega)
  have y0 : wz.cell? ⟨Wu, 0, none⟩ = some (.int .i64 f.u) := hE.wu.1 0 (by omega)
  have y1 : wz.cell? ⟨Wu, 1, none⟩ = some (.int .i64 b.u) := hE.wu.1 1 (by omega)
  have z0 : wz.cell? ⟨Wt, 0, none⟩ = some (.int .u64 f.t) := hE.wt.1 0 (by omega)
  have z1 : wz.cell? ⟨Wt, 1, none⟩ = some (.int .u64 b.t) := hE.wt.1 1 (by omega)
  obtain ⟨G, g, cap, hH, hg0⟩ := hE.h
  obtain ⟨base, hV⟩ := hE.v
  have HA : Hid _ := hE.ask
  have HB : Hid _ := hE.low
  have hl := hE.hl
  have ho := hE.ho
  clear hE hn hf hb c14
  conv => arg 2; whnf
  go_wp2_with fail
  refine wp_loop_rounds 3 ?_
  rw [rounds_succ]
  go_wp2_with fail
  go_quiet (fail)
  go_wp2_with fail
  rw [rounds_succ]
  go_wp2_with fail
  go_quiet (fail)
  go_wp2_with fail
  rw [rounds_succ]
  clear e14 e24 e25 e26 e27 e28 e35 e36 e37 e38 e39 w0 w1 x0 x1 x2 x3 y0 y1 z0 z1
  obtain ⟨S, O, h1, h2, h3, h4, h5, h6⟩ := hH
  obtain ⟨aS, capS, rfl⟩ : ∃ a cap, S = .slice a ls.length cap := by
    rcases h2.2 with ⟨rfl, h0⟩ | ⟨g, cap, cur, rfl, _⟩
    · exact ⟨none, 0, by rw [h0]⟩
    · exact ⟨_, cap, rfl⟩
  obtain ⟨aV, capV, rfl⟩ : ∃ a cap, V = .slice a ls.length cap := by
    rcases hV.2 with ⟨rfl, h0⟩ | ⟨g, cap, cur, rfl, _⟩
    · exact ⟨none, 0, by rw [h0]⟩
    · exact ⟨_, cap, rfl⟩
  obtain ⟨gO, capO, rfl⟩ : ∃ a cap, O = .slice (some ⟨a, 0, none⟩) (os.length + 1) cap := by
    rcases h3.2 with ⟨rfl, h0⟩ | ⟨g, cap, cur, rfl, _⟩
    · simp at h0
    · exact ⟨g, cap, by simp⟩
  have o0 : wz.cell? ⟨H, 0, none⟩ = some (.slice aS ls.length capS) := h1.1 0 (by omega)
  have o1 : wz.cell? ⟨H, 1, none⟩ = some (.slice (some ⟨g, 0, none⟩) 1 cap) := h1.1 1 (by omega)
  have o2 : wz.cell? ⟨H, 2, none⟩ = some (.slice (some ⟨gO, 0, none⟩) (os.length + 1) capO) := h1.1 2 (by omega)
  have oW : wz.cell? ⟨gO, os.length, none⟩ = some (.int .u8 87) := by
    have := h3
    rw [List.length_append] at this
    exact (this.cellAt os.length (by simp)).trans (by simp)
  have hgO : gO < wz.heap.size := ((show wz.ownsRow G 5 1 (.slice (some ⟨gO, 0, none⟩) (os.length + 1) capO) _ _ from h3).lt gO rfl).2
  have hgw : g < wz.heap.size := cell_lt hg0
  have hHw : H < wz.heap.size := by omega
  have HS : Hid (wz.ownsRow G 76 25 (.slice aS ls.length capS) ls.length ls.flatten) := h2
  have HV : Hid (wz.ownsRow base 76 25 (.slice aV ls.length capV) ls.length ls.flatten) := hV
  clear h1 h2 h3 h4 h5 h6 hV
  go_wp2_with fail
  go_loopw [356] (fun i wr => ∃ k : Nat, k ≤ ls.length ∧ i = .int .i64 k ∧ Below wz.heap.size wz wr) (fun i _ => ls.length - (intOf i).toNat)
  case atStart => exact ⟨0, by omega, rfl, ⟨rfl, rfl, rfl, Nat.le_refl _, fun _ _ => rfl⟩⟩
  case round =>
    obtain ⟨k, hk, rfl, hBr⟩ := hrel
    have p0 : wr.cell? ⟨H, 0, none⟩ = some (.slice aS ls.length capS) := (hBr.cell (p := ⟨H, 0, none⟩) hHw).trans o0
    have p1 : wr.cell? ⟨H, 1, none⟩ = some (.slice (some ⟨g, 0, none⟩) 1 cap) := (hBr.cell (p := ⟨H, 1, none⟩) hHw).trans o1
    have p2 : wr.cell? ⟨H, 2, none⟩ = some (.slice (some ⟨gO, 0, none⟩) (os.length + 1) capO) := (hBr.cell (p := ⟨H, 2, none⟩) hHw).trans o2
    have pW : wr.cell? ⟨gO, os.length, none⟩ = some (.int .u8 87) := (hBr.cell (p := ⟨gO, os.length, none⟩) hgO).trans oW
    have pg : wr.cell? ⟨g, 0, none⟩ = some (.int .i64 1000000000) := (hBr.cell (p := ⟨g, 0, none⟩) hgw).trans hg0
    by_cases hkn : k < ls.length
    · obtain ⟨x, hx⟩ : ∃ x, ls[k]? = some x := ⟨_, List.getElem?_eq_getElem hkn⟩
      obtain ⟨gS, cS, e1, hgS, rS⟩ := row_at HS.out HA.out (by omega)
      obtain ⟨gV, cV, e2, hgV, rV⟩ := row_at HV.out HA.out (by omega)
      injection e1 with e1 _ e1'
      injection e2 with e2 _ e2'
      subst e1 e1' e2 e2'
      obtain ⟨tk, ta, uk, ua, pk, pa, nk, na, mk, d, q, hxe⟩ := HA.out x (List.mem_of_getElem? hx)
      have rS' : rowL wr ⟨gS, k * 25, none⟩ 25 = some x := (rowL_of_block (hBr.block gS hgS)).trans (rS k x hx)
      have rV' : rowL wr ⟨gV, k * 25, none⟩ 25 = some x := (rowL_of_block (hBr.block gV hgV)).trans (rV k x hx)
      rw [hxe] at rS' rV'
      clear hxe hx rS rV
      have hgS' : gS < wr.heap.size := Nat.lt_of_lt_of_le hgS hBr.size
      have hgV' : gV < wr.heap.size := Nat.lt_of_lt_of_le hgV hBr.size
      have hHr : H < wr.heap.size := Nat.lt_of_lt_of_le hHw hBr.size
      have hk0 : (0 : Int) ≤ (k : Int) := by omega
      have hk7 : (k : Int) < (ls.length : Int) := by omega
      have hso : SOne tk ta (upd (upd (askC d pk pa nk na mk q) 4 (.string uk)) 5 (.string ua)) := by unfold SOne; rw [← Array.all_toList]; rfl
      obtain ⟨cc, hcc⟩ : ∃ cc, cc = upd (upd (askC d pk pa nk na mk q) 4 (.string uk)) 5 (.string ua) := ⟨_, rfl⟩
      rw [← hcc] at rS' rV' hso
      have HCC : Hid _ := hcc
      clear hcc
      go_wp2_with fail
      go_cut [53, 54] from 359 to 369 (fun x y wx => ∃ P Q, x = .pointer (some ⟨P, 0, none⟩) ∧ y = .pointer (some ⟨Q, 0, none⟩) ∧ Blk wx P 25 (sF tk ta cc) ∧ Blk wx Q 25 (sF tk ta cc) ∧ Below wz.heap.size wz wx)
      case first =>
        have hF1 := ((sF_fresh wr tk ta cc 76).alloc (by simp) (.cells (sA tk ta cc) 76)).drew
        have hF2 := (sF_fresh (wr.alloc (.cells (sA tk ta cc) 76)) tk ta cc 76).drew
        rw [World.size_alloc] at hF2
        have HF1 : Hid _ := hF1
        have HF2 : Hid _ := hF2
        have HF3 : Hid (Below wz.heap.size wz ((wr.alloc (.cells (sA tk ta cc) 76)).alloc (.cells (sA tk ta cc) 76)).drew) := ((hBr.alloc hBr.size _).alloc (by simp; have := hBr.size; omega) _).drew
        clear hF1 hF2
        go_region
        all_goals
          go_wp2
          go_meet
          case rel => first | exact ⟨_, _, rfl, rfl, HF1.out, HF2.out, HF3.out⟩ | exact ⟨_, _, rfl, rfl, HF2.out, HF1.out, HF3.out⟩
      case rest =>
        obtain ⟨P, Q, rfl, rfl, hP, hQ, hBc⟩ := hcut
        have P0 : wc.cell? ⟨P, 0, none⟩ = some (.string tk) := (hP.1 0 (by omega)).trans (by rw [HCC.out]; rfl)
        have Q0 : wc.cell? ⟨Q, 0, none⟩ = some (.string tk) := (hQ.1 0 (by omega)).trans (by rw [HCC.out]; rfl)
        have P1 : wc.cell? ⟨P, 1, none⟩ = some (.string ta) := (hP.1 1 (by omega)).trans (by rw [HCC.out]; rfl)
        have Q1 : wc.cell? ⟨Q, 1, none⟩ = some (.string ta) := (hQ.1 1 (by omega)).trans (by rw [HCC.out]; rfl)
        have P2 : wc.cell? ⟨P, 2, none⟩ = some (.int .u8 7) := (hP.1 2 (by omega)).trans (by rw [HCC.out]; rfl)
        have Q2 : wc.cell? ⟨Q, 2, none⟩ = some (.int .u8 7) := (hQ.1 2 (by omega)).trans (by rw [HCC.out]; rfl)
        have P3 : wc.cell? ⟨P, 3, none⟩ = some (.int .u8 d) := (hP.1 3 (by omega)).trans (by rw [HCC.out]; rfl)
        have Q3 : wc.cell? ⟨Q, 3, none⟩ = some (.int .u8 d) := (hQ.1 3 (by omega)).trans (by rw [HCC.out]; rfl)
        have P6 : wc.cell? ⟨P, 6, none⟩ = some (.string uk) := (hP.1 6 (by omega)).trans (by rw [HCC.out]; rfl)
        have Q6 : wc.cell? ⟨Q, 6, none⟩ = some (.string uk) := (hQ.1 6 (by omega)).trans (by rw [HCC.out]; rfl)
        have P7 : wc.cell? ⟨P, 7, none⟩ = some (.string ua) := (hP.1 7 (by omega)).trans (by rw [HCC.out]; rfl)
        have Q7 : wc.cell? ⟨Q, 7, none⟩ = some (.string ua) := (hQ.1 7 (by omega)).trans (by rw [HCC.out]; rfl)
        have P8 : wc.cell? ⟨P, 8, none⟩ = some (.string pk) := (hP.1 8 (by omega)).trans (by rw [HCC.out]; rfl)
        have Q8 : wc.cell? ⟨Q, 8, none⟩ = some (.string pk) := (hQ.1 8 (by omega)).trans (by rw [HCC.out]; rfl)
        have P9 : wc.cell? ⟨P, 9, none⟩ = some (.string pa) := (hP.1 9 (by omega)).trans (by rw [HCC.out]; rfl)
        have Q9 : wc.cell? ⟨Q, 9, none⟩ = some (.string pa) := (hQ.1 9 (by omega)).trans (by rw [HCC.out]; rfl)
        have P10 : wc.cell? ⟨P, 10, none⟩ = some (.int .u64 0) := (hP.1 10 (by omega)).trans (by rw [HCC.out]; rfl)
        have Q10 : wc.cell? ⟨Q, 10, none⟩ = some (.int .u64 0) := (hQ.1 10 (by omega)).trans (by rw [HCC.out]; rfl)
        have P15 : wc.cell? ⟨P, 15, none⟩ = some (.int .i64 q) := (hP.1 15 (by omega)).trans (by rw [HCC.out]; rfl)
        have Q15 : wc.cell? ⟨Q, 15, none⟩ = some (.int .i64 q) := (hQ.1 15 (by omega)).trans (by rw [HCC.out]; rfl)
        have P16 : wc.cell? ⟨P, 16, none⟩ = some (.string nk) := (hP.1 16 (by omega)).trans (by rw [HCC.out]; rfl)
        have Q16 : wc.cell? ⟨Q, 16, none⟩ = some (.string nk) := (hQ.1 16 (by omega)).trans (by rw [HCC.out]; rfl)
        have P17 : wc.cell? ⟨P, 17, none⟩ = some (.string na) := (hP.1 17 (by omega)).trans (by rw [HCC.out]; rfl)
        have Q17 : wc.cell? ⟨Q, 17, none⟩ = some (.string na) := (hQ.1 17 (by omega)).trans (by rw [HCC.out]; rfl)
        have P18 : wc.cell? ⟨P, 18, none⟩ = some (.string mk) := (hP.1 18 (by omega)).trans (by rw [HCC.out]; rfl)
        have Q18 : wc.cell? ⟨Q, 18, none⟩ = some (.string mk) := (hQ.1 18 (by omega)).trans (by rw [HCC.out]; rfl)
        have P22 : wc.cell? ⟨P, 22, none⟩ = some (.pointer none) := (hP.1 22 (by omega)).trans (by rw [HCC.out]; rfl)
        have Q22 : wc.cell? ⟨Q, 22, none⟩ = some (.pointer none) := (hQ.1 22 (by omega)).trans (by rw [HCC.out]; rfl)
        have HBc : Hid _ := hBc
        clear hP hQ hBc p0 p1 p2 pW pg rS' rV'
        go_wp2_with fail
        go_roundw
        case rel => exact ⟨k + 1, by omega, by go_num, HBc.out⟩
        case measure => simp [intOf]; omega
    · obtain rfl : k = ls.length := by omega
      have HBr : Hid _ := hBr
      have hos : (os.length : Int) + 1 - 1 = os.length := by omega
      have hos0 : (0 : Int) ≤ (os.length : Int) := by omega
      have hos1 : (os.length : Int) < (os.length : Int) + 1 := by omega
      go_wp2_with fail
      go_quiet (fail)
      go_wp2
      go_ret
      exact ⟨rfl, (HB.out.trans (HBr.out.mono HB.out.size)).trans ⟨rfl, rfl, rfl, Nat.le_refl _, fun _ _ => rfl⟩⟩

end Go.Proofs.YbulkbpcaGreat
