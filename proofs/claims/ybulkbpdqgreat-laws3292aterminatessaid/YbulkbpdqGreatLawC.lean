import Derived.Test.YbulkbpdqGreatLawCA
import Derived.Test.YbulkbpdqGreatLawCB
import Derived.Test.YbulkbpdqGreatLawCL
import Derived.Test.YbulkbpdqGreatLawCC
import Derived.Test.YbulkbpdqGreatLawCE
import Derived.Test.YbulkbpdqGreatLawCD
import Derived.Test.YbulkbpdqGreatLawCT
namespace Go.Proofs.YbulkbpdqGreat
open Go.ChangeShapes Go.WideShapes Go.ChangeAt Go.RowKit
set_option linter.unusedVariables false

theorem wp_last {P : Program} {c : Code} {Q : Exit → Act → World → Prop} {a : Act} {w : World} (h : c.wp P (Exit.then (Q .normal) Q) a w) : c.wp P Q a w :=
  wp_mono h (by intro e a w h; cases e <;> exact h)

set_option maxRecDepth 1000000 in
set_option maxHeartbeats 8000000 in
/-- The law's questions. -/
theorem law_check (E : Env) (W : E.Wf) (og : Nat → ByteArray) (s : Sta) (hnm : ∀ k, k < E.n → E.nm k = nmB k) (HI : Hid (Inv E og s)) (HCD : Hid (∀ k, k < E.n → s.cd k = false)) (w : World) (nb TS OG SR IS TB TM : Nat) (w5 : World)
    (HST : Hid (St E s w5)) (HAR : Hid (Arr E og nb TS OG SR IS w5)) (HTB : Hid (Blk w5 TB 1 (fun _ => .slice (some ⟨TM, 0, none⟩) E.n E.n))) (HTM : Hid (Blk w5 TM E.n (fun i => .bool (!s.ow i)))) (hTMl5 : TM < w5.heap.size) (HL5 : Hid (Below w.heap.size w w5))
    (j0 j1 j6 j8 j12 j14 j15 j16 j17 j18 j20 j21 j33 j34 j35 j36 j37 j38 j39 j40 j41 j42 j43 j44 j45 j46 j47 j48 j49 j50 j51 j52 j53 j54 j55 j56 j57 j58 j59 j60 j61 j62 j63 j64 j65 j66 j67 j68 j69 j70 j71 j72 j73 j74 j75 j76 j77 j78 j79 j80 j81 j82 j83 j84 j85 j86 j87 j88 j89 j90 j91 j92 j93 j94 j95 j96 j97 j98 j99 j100 j101 j102 j103 j104 j105 j106 j107 j108 j109 j110 j111 j112 j113 j114 j115 j116 j117 j118 j119 j120 j121 j122 j123 j124 j125 j126 j127 j128 j129 j130 j131 j132 j133 j134 j135 j136 j137 j138 j139 j140 j141 j142 j143 j144 j145 j146 j147 j148 j149 j150 j151 j152 j153 j154 j155 j156 j157 j158 j159 j160 j161 j162 j163 j164 j165 j166 j167 j168 j169 j170 j171 j172 j173 j174 j175 j176 j177 j178 j179 j180 j181 j182 j183 j184 j185 j186 j187 j188 j189 j190 j191 j192 j193 j194 j195 j196 j197 j198 j199 j200 j201 j202 j203 j204 j205 j206 j207 j208 j209 j210 j211 j212 j213 j214 j215 j216 j217 j218 j219 j220 j221 j222 j223 j224 j225 j226 j227 j228 j229 j230 j231 j232 j233 j234 j235 j236 j237 j238 j239 j240 j241 : Value) :
    Code.wp Ybaz.prog ((Ybaz.f3.body.bind (behind 49)).getD .skip) (bodyPost Ybaz.prog Ybaz.f3 fun e w' => e = .returned (.bool true) ∧ Below w.heap.size w w')
      ⟨#[j0, j1, undef, undef, .bool false, .pointer (some ⟨nb, 0, none⟩), j6, .pointer (some ⟨E.ad .sch, 0, none⟩), j8, .slice (some ⟨TS, 0, none⟩) E.n E.n, .slice (some ⟨OG, 0, none⟩) E.n E.n, .slice (some ⟨SR, 0, none⟩) E.n E.n, j12, .slice (some ⟨IS, 0, none⟩) E.n E.n, j14, j15, j16, j17, j18, .pointer (some ⟨TB, 0, none⟩), j20, j21, undef, undef, undef, undef, undef, undef, undef, undef, undef, undef, undef, j33, j34, j35, j36, j37, j38, j39, j40, j41, j42, j43, j44, j45, j46, j47, j48, j49, j50, j51, j52, j53, j54, j55, j56, j57, j58, j59, j60, j61, j62, j63, j64, j65, j66, j67, j68, j69, j70, j71, j72, j73, j74, j75, j76, j77, j78, j79, j80, j81, j82, j83, j84, j85, j86, j87, j88, j89, j90, j91, j92, j93, j94, j95, j96, j97, j98, j99, j100, j101, j102, j103, j104, j105, j106, j107, j108, j109, j110, j111, j112, j113, j114, j115, j116, j117, j118, j119, j120, j121, j122, j123, j124, j125, j126, j127, j128, j129, j130, j131, j132, j133, j134, j135, j136, j137, j138, j139, j140, j141, j142, j143, j144, j145, j146, j147, j148, j149, j150, j151, j152, j153, j154, j155, j156, j157, j158, j159, j160, j161, j162, j163, j164, j165, j166, j167, j168, j169, j170, j171, j172, j173, j174, j175, j176, j177, j178, j179, j180, j181, j182, j183, j184, j185, j186, j187, j188, j189, j190, j191, j192, j193, j194, j195, j196, j197, j198, j199, j200, j201, j202, j203, j204, j205, j206, j207, j208, j209, j210, j211, j212, j213, j214, j215, j216, j217, j218, j219, j220, j221, j222, j223, j224, j225, j226, j227, j228, j229, j230, j231, j232, j233, j234, j235, j236, j237, j238, j239, j240, j241, undef, undef, undef, undef, undef, undef, undef, undef, undef, undef, undef, undef, undef, undef, undef, undef, undef, undef, undef, undef, undef, undef, undef, undef, undef, undef, undef, undef, undef, undef, undef, undef, undef, undef, undef, undef, undef, undef, undef, undef, undef, undef, undef, undef, undef, undef, undef, undef, undef, undef, undef, undef, undef, undef, undef, undef, undef, undef, undef, undef, undef, undef, undef, undef, undef, undef, undef, undef, undef, undef, undef, undef, undef, undef, undef, undef, undef, undef, undef, undef, undef, undef, undef, undef, undef, undef, undef, undef, undef, undef, undef, undef, undef, undef, undef, undef, undef, undef, undef, undef, undef, undef, undef, undef, undef, undef, undef, undef, undef, undef, undef, undef, undef, undef, undef, undef, undef, undef, undef, undef, undef, undef, undef, undef, undef, undef, undef, undef, undef, undef, undef, undef, undef, undef, undef, undef, undef, undef, undef, undef, undef, undef, undef, undef, undef, undef, undef, undef, undef, undef, undef, undef, undef, undef, undef, undef, undef, undef, undef, undef, undef, undef, undef, undef, undef, undef, undef, undef, undef, undef, undef, undef, undef, undef, undef, undef, undef, undef, undef, undef, undef, undef, undef, undef, undef, undef, undef], []⟩ w5 := by
  have hn := W.n
  conv => arg 2; whnf
  go_wp2_with fail
  go_loopw [22] (fun v wr => ∃ k : Nat, k ≤ E.n ∧ v = .int .i64 k ∧ Below w5.heap.size w5 wr) (fun v _ => E.n - (intOf v).toNat)
  case atStart => exact ⟨0, by omega, rfl, Below.refl _ _⟩
  case round =>
    obtain ⟨k, hk, rfl, hB7⟩ := hrel
    obtain ⟨w7, rfl⟩ : ∃ w7, w7 = wr := ⟨_, rfl⟩
    by_cases hlt : k < E.n
    · have k0 : (0 : Int) ≤ (k : Int) := by omega
      have k1 : (k : Int) < (E.n : Int) := by omega
      have hk3 : k < 300 := by omega
      have HB7 : Hid (Below w5.heap.size w5 w7) := hB7
      have hst := HST.out.below W HB7.out
      have hAr := HAR.out.below HB7.out
      have hTBb := HTB.out.below HB7.out (HTB.out.lt (by omega))
      have hTMb := HTM.out.below HB7.out hTMl5
      have nc : w7.cell? ⟨nb, 0, none⟩ = some (.int .i64 E.n) := hAr.qn.1 0 (by omega)
      have hnl2 := hAr.lt.1
      have cTS : w7.cell? ⟨TS, k, none⟩ = some (.pointer (some ⟨E.ad (.tx k), 0, none⟩)) := hAr.qt.1 k hlt
      have hTSl := hAr.lt.2.1
      have ht := (hst.loc (.tx k) hlt).1
      have htl := ht.lt (by omega)
      have t17 : w7.cell? ⟨E.ad (.tx k), 17, none⟩ = some (.bool false) := (ht.1 17 (by omega)).trans (by show some (Value.bool (s.cd k)) = _; rw [HCD.out k hlt])
      have cTB : w7.cell? ⟨TB, 0, none⟩ = some (.slice (some ⟨TM, 0, none⟩) E.n E.n) := hTBb.1 0 (by omega)
      have hTBl := hTBb.lt (by omega)
      have cTM : w7.cell? ⟨TM, k, none⟩ = some (.bool (!s.ow k)) := hTMb.1 k hlt
      have hTMl := hTMb.lt (by omega)
      clear hst hAr hTBb hTMb ht
      clear hB7
      go_upto_if 258 with fail
      refine part_a E W og s hnm HI HCD nb TS OG SR IS TB TM w5 HST HAR HTB HTM hTMl5 k hlt w7 HB7  _ _ _ _ _ _ _ _ _ _ _ _ _ _ _ _ _ _ _ _ _ _ _ _ _ _ _ _ _ _ _ _ _ _ _ _ _ _ _ _ _ _ _ _ _ _ _ _ _ _ _ _ _ _ _ _ _ _ _ _ _ _ _ _ _ _ _ _ _ _ _ _ _ _ _ _ _ _ _ _ _ _ _ _ _ _ _ _ _ _ _ _ _ _ _ _ _ _ _ _ _ _ _ _ _ _ _ _ _ _ _ _ _ _ _ _ _ _ _ _ _ _ _ _ _ _ _ _ _ _ _ _ _ _ _ _ _ _ _ _ _ _ _ _ _ _ _ _ _ _ _ _ _ _ _ _ _ _ _ _ _ _ _ _ _ _ _ _ _ _ _ _ _ _ _ _ _ _ _ _ _ _ _ _ _ _ _ _ _ _ _ _ _ _ _ _ _ _ _ _ _ _ _ _ _ _ _ _ _ _ _ _ _ _ _ _ _ _ _ _ _ _ _ _ _ _ _ _ _ _ _ _ _ _ _ _ _ _ _ _ _ _ _ _ _ _ _ _ _ _ _ _ _ _ _ _ _ _ _ _ _ _ _ _ _ _ _ _ _ _ _ _ _ _ _ _ _ _ _ _ _ _ _ _ _ _ _ _ _ _ _ _ _ _ _ _ _ _ _ _ _ _ _ _ _ _ _ _ _ _ _ _ _ _ _ _ _ _ _ _ _ _ _ _ _ _ _ _ _ _ _ _ _ _ _ _ _ _ _ _ _ _ _ _ _ _ _ _ _ _ _ _ _ _ _ _ _ _ _ _ _ _ _ _ _ _ _ _ _ _ _ _ _ _ _ _ _ _ _ _ _ _ _ _ _ _ _ _ _ _ _ _ _ _ _ _ _ _ _ _ _ _ _ _ _ _ _ _ _ _ _ _ _ _ _ _ _ _ _ _ _ ?_
      intro v4 v258 v259 v260 v261 v262 v263 v264 v265 v266 v267 v268 v269 v270 v271 v272 v273 v274 v275 v276 v277 v278 v279 v280 v281 v282 v283 v284 v285 v286 v287 v288 v289 v290 v291 v292 v293 v294 v295 v296 v297 v298 v299 v300 v301 v302 v303 v304 v305 v306 v307 v308 v309 v310 v311 v312 v313 v314 v315 v316 v317 v318 v319 v320 v321 v322 v323 v324 v325 v326 v327 wa hBa
      have HBa : Hid (Below w5.heap.size w5 wa) := HB7.out.trans (hBa.mono HB7.out.size)
      clear nc hnl2 cTS hTSl htl t17 cTB hTBl cTM hTMl
      clear hBa
      go_upto_region 64 with fail
      refine part_b E W og s hnm HI HCD nb TS OG SR IS TB TM w5 HST HAR HTB HTM hTMl5 k hlt wa HBa  _ _ _ _ _ _ _ _ _ _ _ _ _ _ _ _ _ _ _ _ _ _ _ _ _ _ _ _ _ _ _ _ _ _ _ _ _ _ _ _ _ _ _ _ _ _ _ _ _ _ _ _ _ _ _ _ _ _ _ _ _ _ _ _ _ _ _ _ _ _ _ _ _ _ _ _ _ _ _ _ _ _ _ _ _ _ _ _ _ _ _ _ _ _ _ _ _ _ _ _ _ _ _ _ _ _ _ _ _ _ _ _ _ _ _ _ _ _ _ _ _ _ _ _ _ _ _ _ _ _ _ _ _ _ _ _ _ _ _ _ _ _ _ _ _ _ _ _ _ _ _ _ _ _ _ _ _ _ _ _ _ _ _ _ _ _ _ _ _ _ _ _ _ _ _ _ _ _ _ _ _ _ _ _ _ _ _ _ _ _ _ _ _ _ _ _ _ _ _ _ _ _ _ _ _ _ _ _ _ _ _ _ _ _ _ _ _ _ _ _ _ _ _ _ _ _ _ _ _ _ _ _ _ _ _ _ _ _ _ _ _ _ _ _ _ _ _ _ _ _ _ _ _ _ _ _ _ _ _ _ _ _ _ _ _ _ _ _ _ _ _ _ _ _ _ _ _ _ _ _ _ _ _ _ _ _ _ _ _ _ _ _ _ _ _ _ _ _ _ _ _ _ _ _ _ _ _ _ _ _ _ _ _ _ _ _ _ _ _ _ _ _ _ _ _ _ _ _ _ _ _ _ _ _ _ _ _ _ _ _ _ _ _ _ _ _ _ _ _ _ _ _ _ _ _ _ _ _ _ _ _ _ _ _ _ _ _ _ _ _ _ _ _ _ _ _ _ _ _ _ _ _ _ _ _ _ _ _ _ _ _ _ _ _ _ _ _ _ _ _ _ _ _ _ _ _ _ _ _ _ _ _ _ _ _ _ _ _ _ _ _ _ _ ?_
      intro v328 v329 v330 v331 v332 v333 v334 v335 v336 v337 wb hBb
      have HBb : Hid (Below w5.heap.size w5 wb) := HBa.out.trans (hBb.mono HBa.out.size)
      clear hBb
      have hst := HST.out.below W HBb.out
      have hAr := HAR.out.below HBb.out
      have hTBb := HTB.out.below HBb.out (HTB.out.lt (by omega))
      have hTMb := HTM.out.below HBb.out hTMl5
      have cTB : wb.cell? ⟨TB, 0, none⟩ = some (.slice (some ⟨TM, 0, none⟩) E.n E.n) := hTBb.1 0 (by omega)
      have hTBl := hTBb.lt (by omega)
      have cTM : wb.cell? ⟨TM, k, none⟩ = some (.bool (!s.ow k)) := hTMb.1 k hlt
      have hTMl := hTMb.lt (by omega)
      clear hst hAr hTBb hTMb
      go_upto_block 14 with fail
      refine part_l E W og s hnm HI HCD nb TS OG SR IS TB TM w5 HST HAR HTB HTM hTMl5 k hlt wb HBb  _ _ _ _ _ _ _ _ _ _ _ _ _ _ _ _ _ _ _ _ _ _ _ _ _ _ _ _ _ _ _ _ _ _ _ _ _ _ _ _ _ _ _ _ _ _ _ _ _ _ _ _ _ _ _ _ _ _ _ _ _ _ _ _ _ _ _ _ _ _ _ _ _ _ _ _ _ _ _ _ _ _ _ _ _ _ _ _ _ _ _ _ _ _ _ _ _ _ _ _ _ _ _ _ _ _ _ _ _ _ _ _ _ _ _ _ _ _ _ _ _ _ _ _ _ _ _ _ _ _ _ _ _ _ _ _ _ _ _ _ _ _ _ _ _ _ _ _ _ _ _ _ _ _ _ _ _ _ _ _ _ _ _ _ _ _ _ _ _ _ _ _ _ _ _ _ _ _ _ _ _ _ _ _ _ _ _ _ _ _ _ _ _ _ _ _ _ _ _ _ _ _ _ _ _ _ _ _ _ _ _ _ _ _ _ _ _ _ _ _ _ _ _ _ _ _ _ _ _ _ _ _ _ _ _ _ _ _ _ _ _ _ _ _ _ _ _ _ _ _ _ _ _ _ _ _ _ _ _ _ _ _ _ _ _ _ _ _ _ _ _ _ _ _ _ _ _ _ _ _ _ _ _ _ _ _ _ _ _ _ _ _ _ _ _ _ _ _ _ _ _ _ _ _ _ _ _ _ _ _ _ _ _ _ _ _ _ _ _ _ _ _ _ _ _ _ _ _ _ _ _ _ _ _ _ _ _ _ _ _ _ _ _ _ _ _ _ _ _ _ _ _ _ _ _ _ _ _ _ _ _ _ _ _ _ _ _ _ _ _ _ _ _ _ _ _ _ _ _ _ _ _ _ _ _ _ _ _ _ _ _ _ _ _ _ _ _ _ _ _ _ _ _ _ _ _ _ _ _ _ _ _ _ _ _ _ _ _ _ _ _ ?_
      intro v27 v344 v345 v346 v347 v348 v349 v350 v351 v352 v353 v354 v355 v356 v357 v358 v359 v360 v361
      go_upto_region 73 with fail
      cases hit : s.it k with
      | true =>
        refine part_c1 E W og s hnm HI HCD nb TS OG SR IS TB TM w5 HST HAR HTB HTM hTMl5 k hlt wb HBb hit _ _ _ _ _ _ _ _ _ _ _ _ _ _ _ _ _ _ _ _ _ _ _ _ _ _ _ _ _ _ _ _ _ _ _ _ _ _ _ _ _ _ _ _ _ _ _ _ _ _ _ _ _ _ _ _ _ _ _ _ _ _ _ _ _ _ _ _ _ _ _ _ _ _ _ _ _ _ _ _ _ _ _ _ _ _ _ _ _ _ _ _ _ _ _ _ _ _ _ _ _ _ _ _ _ _ _ _ _ _ _ _ _ _ _ _ _ _ _ _ _ _ _ _ _ _ _ _ _ _ _ _ _ _ _ _ _ _ _ _ _ _ _ _ _ _ _ _ _ _ _ _ _ _ _ _ _ _ _ _ _ _ _ _ _ _ _ _ _ _ _ _ _ _ _ _ _ _ _ _ _ _ _ _ _ _ _ _ _ _ _ _ _ _ _ _ _ _ _ _ _ _ _ _ _ _ _ _ _ _ _ _ _ _ _ _ _ _ _ _ _ _ _ _ _ _ _ _ _ _ _ _ _ _ _ _ _ _ _ _ _ _ _ _ _ _ _ _ _ _ _ _ _ _ _ _ _ _ _ _ _ _ _ _ _ _ _ _ _ _ _ _ _ _ _ _ _ _ _ _ _ _ _ _ _ _ _ _ _ _ _ _ _ _ _ _ _ _ _ _ _ _ _ _ _ _ _ _ _ _ _ _ _ _ _ _ _ _ _ _ _ _ _ _ _ _ _ _ _ _ _ _ _ _ _ _ _ _ _ _ _ _ _ _ _ _ _ _ _ _ _ _ _ _ _ _ _ _ _ _ _ _ _ _ _ _ _ _ _ _ _ _ _ _ _ _ _ _ _ _ _ _ _ _ _ _ _ _ _ _ _ _ _ _ _ _ _ _ _ _ _ _ _ _ _ _ _ _ _ _ _ _ _ _ _ _ _ _ _ _ _ _ _ ?_
        intro v362 v363 v364 v365 v366 v367 v368 v369 v370 v371 v372 v373 wd hBd
        have HBd : Hid (Below w5.heap.size w5 wd) := HBb.out.trans (hBd.mono HBb.out.size)
        clear hBd
        clear cTB hTBl cTM hTMl
        have hst := HST.out.below W HBd.out
        have hAr := HAR.out.below HBd.out
        have hTBb := HTB.out.below HBd.out (HTB.out.lt (by omega))
        have hTMb := HTM.out.below HBd.out hTMl5
        have cSR : wd.cell? ⟨SR, k, none⟩ = some (.int .i64 (srcZ E k)) := hAr.qs.1 k hlt
        have hSRl := hAr.lt.2.2.2.1
        clear hst hAr hTBb hTMb
        go_upto_region 74 with fail
        refine part_d E W og s hnm HI HCD nb TS OG SR IS TB TM w5 HST HAR HTB HTM hTMl5 k hlt wd HBd (s.ow k) (live E s k E.n) true rfl (by rw [← hit, HI.out.sh.it k hlt, live_bare HI.out.sh]) _ _ _ _ _ _ _ _ _ _ _ _ _ _ _ _ _ _ _ _ _ _ _ _ _ _ _ _ _ _ _ _ _ _ _ _ _ _ _ _ _ _ _ _ _ _ _ _ _ _ _ _ _ _ _ _ _ _ _ _ _ _ _ _ _ _ _ _ _ _ _ _ _ _ _ _ _ _ _ _ _ _ _ _ _ _ _ _ _ _ _ _ _ _ _ _ _ _ _ _ _ _ _ _ _ _ _ _ _ _ _ _ _ _ _ _ _ _ _ _ _ _ _ _ _ _ _ _ _ _ _ _ _ _ _ _ _ _ _ _ _ _ _ _ _ _ _ _ _ _ _ _ _ _ _ _ _ _ _ _ _ _ _ _ _ _ _ _ _ _ _ _ _ _ _ _ _ _ _ _ _ _ _ _ _ _ _ _ _ _ _ _ _ _ _ _ _ _ _ _ _ _ _ _ _ _ _ _ _ _ _ _ _ _ _ _ _ _ _ _ _ _ _ _ _ _ _ _ _ _ _ _ _ _ _ _ _ _ _ _ _ _ _ _ _ _ _ _ _ _ _ _ _ _ _ _ _ _ _ _ _ _ _ _ _ _ _ _ _ _ _ _ _ _ _ _ _ _ _ _ _ _ _ _ _ _ _ _ _ _ _ _ _ _ _ _ _ _ _ _ _ _ _ _ _ _ _ _ _ _ _ _ _ _ _ _ _ _ _ _ _ _ _ _ _ _ _ _ _ _ _ _ _ _ _ _ _ _ _ _ _ _ _ _ _ _ _ _ _ _ _ _ _ _ _ _ _ _ _ _ _ _ _ _ _ _ _ _ _ _ _ _ _ _ _ _ _ _ _ _ _ _ _ _ _ _ _ _ _ _ _ _ _ _ _ _ _ _ _ _ _ _ _ _ _ _ _ _ _ _ _ _ _ _ _ _ _ _ _ _ _ ?_
        intro v374 v375 v376 v377 v378 v379 v380 v381 v382
        go_upto_if 388 with fail
        refine wp_last (part_t E W og s hnm HI HCD nb TS OG SR IS TB TM w5 HST HAR HTB HTM hTMl5 k hlt wd HBd  _ _ _ _ _ _ _ _ _ _ _ _ _ _ _ _ _ _ _ _ _ _ _ _ _ _ _ _ _ _ _ _ _ _ _ _ _ _ _ _ _ _ _ _ _ _ _ _ _ _ _ _ _ _ _ _ _ _ _ _ _ _ _ _ _ _ _ _ _ _ _ _ _ _ _ _ _ _ _ _ _ _ _ _ _ _ _ _ _ _ _ _ _ _ _ _ _ _ _ _ _ _ _ _ _ _ _ _ _ _ _ _ _ _ _ _ _ _ _ _ _ _ _ _ _ _ _ _ _ _ _ _ _ _ _ _ _ _ _ _ _ _ _ _ _ _ _ _ _ _ _ _ _ _ _ _ _ _ _ _ _ _ _ _ _ _ _ _ _ _ _ _ _ _ _ _ _ _ _ _ _ _ _ _ _ _ _ _ _ _ _ _ _ _ _ _ _ _ _ _ _ _ _ _ _ _ _ _ _ _ _ _ _ _ _ _ _ _ _ _ _ _ _ _ _ _ _ _ _ _ _ _ _ _ _ _ _ _ _ _ _ _ _ _ _ _ _ _ _ _ _ _ _ _ _ _ _ _ _ _ _ _ _ _ _ _ _ _ _ _ _ _ _ _ _ _ _ _ _ _ _ _ _ _ _ _ _ _ _ _ _ _ _ _ _ _ _ _ _ _ _ _ _ _ _ _ _ _ _ _ _ _ _ _ _ _ _ _ _ _ _ _ _ _ _ _ _ _ _ _ _ _ _ _ _ _ _ _ _ _ _ _ _ _ _ _ _ _ _ _ _ _ _ _ _ _ _ _ _ _ _ _ _ _ _ _ _ _ _ _ _ _ _ _ _ _ _ _ _ _ _ _ _ _ _ _ _ _ _ _ _ _ _ _ _ _ _ _ _ _ _ _ _ _ _ _ _ _ _ _ _ _ _ _ _ _ _ _ _ _ _ ?_)
        intro v4 v29 v30 v31 v32 v388 v389 v390 v391 v392 v393 v394 v395 v396 v397 v398 v399 v400 v401 v402 v403 v404 v405 v406 v407 v408 v409 v410 v411 v412 v413 v414 v415 v416 v417 v418 v419 v420
        simp only [Exit.inBlock, Exit.then]
        go_wp2_with fail
        go_roundw
        case rel => exact ⟨k + 1, by omega, by go_num, HBd.out⟩
        case measure => simp [intOf]; omega
      | false =>
        refine part_c0 E W og s hnm HI HCD nb TS OG SR IS TB TM w5 HST HAR HTB HTM hTMl5 k hlt wb HBb hit _ _ _ _ _ _ _ _ _ _ _ _ _ _ _ _ _ _ _ _ _ _ _ _ _ _ _ _ _ _ _ _ _ _ _ _ _ _ _ _ _ _ _ _ _ _ _ _ _ _ _ _ _ _ _ _ _ _ _ _ _ _ _ _ _ _ _ _ _ _ _ _ _ _ _ _ _ _ _ _ _ _ _ _ _ _ _ _ _ _ _ _ _ _ _ _ _ _ _ _ _ _ _ _ _ _ _ _ _ _ _ _ _ _ _ _ _ _ _ _ _ _ _ _ _ _ _ _ _ _ _ _ _ _ _ _ _ _ _ _ _ _ _ _ _ _ _ _ _ _ _ _ _ _ _ _ _ _ _ _ _ _ _ _ _ _ _ _ _ _ _ _ _ _ _ _ _ _ _ _ _ _ _ _ _ _ _ _ _ _ _ _ _ _ _ _ _ _ _ _ _ _ _ _ _ _ _ _ _ _ _ _ _ _ _ _ _ _ _ _ _ _ _ _ _ _ _ _ _ _ _ _ _ _ _ _ _ _ _ _ _ _ _ _ _ _ _ _ _ _ _ _ _ _ _ _ _ _ _ _ _ _ _ _ _ _ _ _ _ _ _ _ _ _ _ _ _ _ _ _ _ _ _ _ _ _ _ _ _ _ _ _ _ _ _ _ _ _ _ _ _ _ _ _ _ _ _ _ _ _ _ _ _ _ _ _ _ _ _ _ _ _ _ _ _ _ _ _ _ _ _ _ _ _ _ _ _ _ _ _ _ _ _ _ _ _ _ _ _ _ _ _ _ _ _ _ _ _ _ _ _ _ _ _ _ _ _ _ _ _ _ _ _ _ _ _ _ _ _ _ _ _ _ _ _ _ _ _ _ _ _ _ _ _ _ _ _ _ _ _ _ _ _ _ _ _ _ _ _ _ _ _ _ _ _ _ _ _ _ _ _ _ _ ?_
        intro v362 v363 v364 v365 v366 v367 v368 v369 v370 v371 v372 v373 wd hBd
        have HBd : Hid (Below w5.heap.size w5 wd) := HBb.out.trans (hBd.mono HBb.out.size)
        clear hBd
        clear cTB hTBl cTM hTMl
        have hst := HST.out.below W HBd.out
        have hAr := HAR.out.below HBd.out
        have hTBb := HTB.out.below HBd.out (HTB.out.lt (by omega))
        have hTMb := HTM.out.below HBd.out hTMl5
        have cSR : wd.cell? ⟨SR, k, none⟩ = some (.int .i64 (srcZ E k)) := hAr.qs.1 k hlt
        have hSRl := hAr.lt.2.2.2.1
        clear hst hAr hTBb hTMb
        go_upto_region 74 with fail
        refine part_d E W og s hnm HI HCD nb TS OG SR IS TB TM w5 HST HAR HTB HTM hTMl5 k hlt wd HBd (s.ow k) (live E s k E.n) false rfl (by rw [← hit, HI.out.sh.it k hlt, live_bare HI.out.sh]) _ _ _ _ _ _ _ _ _ _ _ _ _ _ _ _ _ _ _ _ _ _ _ _ _ _ _ _ _ _ _ _ _ _ _ _ _ _ _ _ _ _ _ _ _ _ _ _ _ _ _ _ _ _ _ _ _ _ _ _ _ _ _ _ _ _ _ _ _ _ _ _ _ _ _ _ _ _ _ _ _ _ _ _ _ _ _ _ _ _ _ _ _ _ _ _ _ _ _ _ _ _ _ _ _ _ _ _ _ _ _ _ _ _ _ _ _ _ _ _ _ _ _ _ _ _ _ _ _ _ _ _ _ _ _ _ _ _ _ _ _ _ _ _ _ _ _ _ _ _ _ _ _ _ _ _ _ _ _ _ _ _ _ _ _ _ _ _ _ _ _ _ _ _ _ _ _ _ _ _ _ _ _ _ _ _ _ _ _ _ _ _ _ _ _ _ _ _ _ _ _ _ _ _ _ _ _ _ _ _ _ _ _ _ _ _ _ _ _ _ _ _ _ _ _ _ _ _ _ _ _ _ _ _ _ _ _ _ _ _ _ _ _ _ _ _ _ _ _ _ _ _ _ _ _ _ _ _ _ _ _ _ _ _ _ _ _ _ _ _ _ _ _ _ _ _ _ _ _ _ _ _ _ _ _ _ _ _ _ _ _ _ _ _ _ _ _ _ _ _ _ _ _ _ _ _ _ _ _ _ _ _ _ _ _ _ _ _ _ _ _ _ _ _ _ _ _ _ _ _ _ _ _ _ _ _ _ _ _ _ _ _ _ _ _ _ _ _ _ _ _ _ _ _ _ _ _ _ _ _ _ _ _ _ _ _ _ _ _ _ _ _ _ _ _ _ _ _ _ _ _ _ _ _ _ _ _ _ _ _ _ _ _ _ _ _ _ _ _ _ _ _ _ _ _ _ _ _ _ _ _ _ _ _ _ _ _ _ _ _ _ ?_
        intro v374 v375 v376 v377 v378 v379 v380 v381 v382
        go_upto_if 388 with fail
        refine wp_last (part_t E W og s hnm HI HCD nb TS OG SR IS TB TM w5 HST HAR HTB HTM hTMl5 k hlt wd HBd  _ _ _ _ _ _ _ _ _ _ _ _ _ _ _ _ _ _ _ _ _ _ _ _ _ _ _ _ _ _ _ _ _ _ _ _ _ _ _ _ _ _ _ _ _ _ _ _ _ _ _ _ _ _ _ _ _ _ _ _ _ _ _ _ _ _ _ _ _ _ _ _ _ _ _ _ _ _ _ _ _ _ _ _ _ _ _ _ _ _ _ _ _ _ _ _ _ _ _ _ _ _ _ _ _ _ _ _ _ _ _ _ _ _ _ _ _ _ _ _ _ _ _ _ _ _ _ _ _ _ _ _ _ _ _ _ _ _ _ _ _ _ _ _ _ _ _ _ _ _ _ _ _ _ _ _ _ _ _ _ _ _ _ _ _ _ _ _ _ _ _ _ _ _ _ _ _ _ _ _ _ _ _ _ _ _ _ _ _ _ _ _ _ _ _ _ _ _ _ _ _ _ _ _ _ _ _ _ _ _ _ _ _ _ _ _ _ _ _ _ _ _ _ _ _ _ _ _ _ _ _ _ _ _ _ _ _ _ _ _ _ _ _ _ _ _ _ _ _ _ _ _ _ _ _ _ _ _ _ _ _ _ _ _ _ _ _ _ _ _ _ _ _ _ _ _ _ _ _ _ _ _ _ _ _ _ _ _ _ _ _ _ _ _ _ _ _ _ _ _ _ _ _ _ _ _ _ _ _ _ _ _ _ _ _ _ _ _ _ _ _ _ _ _ _ _ _ _ _ _ _ _ _ _ _ _ _ _ _ _ _ _ _ _ _ _ _ _ _ _ _ _ _ _ _ _ _ _ _ _ _ _ _ _ _ _ _ _ _ _ _ _ _ _ _ _ _ _ _ _ _ _ _ _ _ _ _ _ _ _ _ _ _ _ _ _ _ _ _ _ _ _ _ _ _ _ _ _ _ _ _ _ _ _ _ _ _ _ _ _ _ ?_)
        intro v4 v29 v30 v31 v32 v388 v389 v390 v391 v392 v393 v394 v395 v396 v397 v398 v399 v400 v401 v402 v403 v404 v405 v406 v407 v408 v409 v410 v411 v412 v413 v414 v415 v416 v417 v418 v419 v420
        simp only [Exit.inBlock, Exit.then]
        go_wp2_with fail
        go_roundw
        case rel => exact ⟨k + 1, by omega, by go_num, HBd.out⟩
        case measure => simp [intOf]; omega
    · obtain rfl : k = E.n := by omega
      have hst := HST.out.below W hB7
      have hAr := HAR.out.below hB7
      have hTBb := HTB.out.below hB7 (HTB.out.lt (by omega))
      have hTMb := HTM.out.below hB7 hTMl5
      have nc : w7.cell? ⟨nb, 0, none⟩ = some (.int .i64 E.n) := hAr.qn.1 0 (by omega)
      have hnl2 := hAr.lt.1
      have cTB : w7.cell? ⟨TB, 0, none⟩ = some (.slice (some ⟨TM, 0, none⟩) E.n E.n) := hTBb.1 0 (by omega)
      have hNN : Blk w7 (E.ad .sch) 209 s.c := hst.loc .sch trivial
      have n4 : w7.cell? ⟨E.ad .sch, 4, none⟩ = some (.map (some (E.ad .mv))) := (hNN.1 4 (by omega)).trans (by rw [hst.sch.c4])
      have hNl2 := hNN.lt (by omega)
      obtain ⟨F, ⟨LL, clock, hR⟩, hF1, hF2⟩ : ∃ F, MapF Value.string w7 (E.ad .mv) F ∧ VeF E s F := hst.loc .mv trivial
      have hlen := fun t => hR.len Ybaz.underlying63 t
      have hcount : LL.length = cnt E.n (fun i => !s.ow i) := by
        have h1 := hR.len_count (((List.range E.n).filter (fun i => !s.ow i)).map E.nm) (by
          refine nodup_map_on _ (List.nodup_range.sublist List.filter_sublist) (fun a ha b hb e => ?_)
          exact W.nm a b (List.mem_range.1 (List.mem_filter.1 ha).1) (List.mem_range.1 (List.mem_filter.1 hb).1) e) (fun x => by
          constructor
          · intro hx
            obtain ⟨i, hi, rfl⟩ := hF2 x hx
            rw [hF1 i hi, HI.out.sh.ve i hi] at hx
            refine List.mem_map.2 ⟨i, List.mem_filter.2 ⟨List.mem_range.2 hi, ?_⟩, rfl⟩
            cases ho : s.ow i with
            | true => rw [ho] at hx; simp at hx
            | false => rfl
          · intro hx
            obtain ⟨i, hi, rfl⟩ := List.mem_map.1 hx
            obtain ⟨h2, h3⟩ := List.mem_filter.1 hi
            rw [hF1 i (List.mem_range.1 h2), HI.out.sh.ve i (List.mem_range.1 h2), if_pos h3]; rfl)
        rw [h1, List.length_map]; rfl
      rw [hcount] at hlen
      have HTM7 : Hid (Blk w7 TM E.n (fun i => .bool (!s.ow i))) := hTMb
      have HLW : Hid (Below w.heap.size w w7) := HL5.out.trans (hB7.mono HL5.out.size)
      clear hst hAr hTBb hTMb hNN hR hF1 hF2 hcount hB7
      go_wp2_with fail
      refine (count_any nb TB TM E.n (fun i => !s.ow i) hn w7 nc cTB HTM7.out).mono ?_
      rintro e w8 ⟨rfl, rfl⟩
      go_wp2_with fail
      go_ret
      exact ⟨by simp, HLW.out⟩

end Go.Proofs.YbulkbpdqGreat
