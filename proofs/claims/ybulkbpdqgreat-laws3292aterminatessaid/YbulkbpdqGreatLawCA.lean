import Derived.Test.YbulkbpdqGreatPick
namespace Go.Proofs.YbulkbpdqGreat
open Go.ChangeShapes Go.WideShapes Go.ChangeAt Go.RowKit
set_option linter.unusedVariables false

set_option maxRecDepth 1000000 in
set_option maxHeartbeats 8000000 in
theorem part_a (E : Env) (W : E.Wf) (og : Nat → ByteArray) (s : Sta) (hnm : ∀ k, k < E.n → E.nm k = nmB k) (HI : Hid (Inv E og s)) (HCD : Hid (∀ k, k < E.n → s.cd k = false)) (nb TS OG SR IS TB TM : Nat) (w5 : World)
    (HST : Hid (St E s w5)) (HAR : Hid (Arr E og nb TS OG SR IS w5)) (HTB : Hid (Blk w5 TB 1 (fun _ => .slice (some ⟨TM, 0, none⟩) E.n E.n))) (HTM : Hid (Blk w5 TM E.n (fun i => .bool (!s.ow i)))) (hTMl5 : TM < w5.heap.size) (k : Nat) (hlt : k < E.n) (w7 : World) (HB7 : Hid (Below w5.heap.size w5 w7)) 
    (j0 j1 j2 j3 j4 j6 j8 j12 j14 j15 j16 j17 j18 j20 j21 j24 j25 j26 j27 j28 j29 j30 j31 j32 j33 j34 j35 j36 j37 j38 j39 j40 j41 j42 j43 j44 j45 j46 j47 j48 j49 j50 j51 j52 j53 j54 j55 j56 j57 j58 j59 j60 j61 j62 j63 j64 j65 j66 j67 j68 j69 j70 j71 j72 j73 j74 j75 j76 j77 j78 j79 j80 j81 j82 j83 j84 j85 j86 j87 j88 j89 j90 j91 j92 j93 j94 j95 j96 j97 j98 j99 j100 j101 j102 j103 j104 j105 j106 j107 j108 j109 j110 j111 j112 j113 j114 j115 j116 j117 j118 j119 j120 j121 j122 j123 j124 j125 j126 j127 j128 j129 j130 j131 j132 j133 j134 j135 j136 j137 j138 j139 j140 j141 j142 j143 j144 j145 j146 j147 j148 j149 j150 j151 j152 j153 j154 j155 j156 j157 j158 j159 j160 j161 j162 j163 j164 j165 j166 j167 j168 j169 j170 j171 j172 j173 j174 j175 j176 j177 j178 j179 j180 j181 j182 j183 j184 j185 j186 j187 j188 j189 j190 j191 j192 j193 j194 j195 j196 j197 j198 j199 j200 j201 j202 j203 j204 j205 j206 j207 j208 j209 j210 j211 j212 j213 j214 j215 j216 j217 j218 j219 j220 j221 j222 j223 j224 j225 j226 j227 j228 j229 j230 j231 j232 j233 j234 j235 j236 j237 j238 j239 j240 j241 j242 j243 j244 j245 j246 j247 j248 j249 j250 j251 j252 j253 j254 j255 j256 j257 j259 j260 j261 j262 j263 j264 j265 j266 j267 j268 j269 j270 j271 j272 j273 j274 j275 j276 j277 j278 j279 j280 j281 j282 j283 j284 j285 j286 j287 j288 j289 j290 j291 j292 j293 j294 j295 j296 j297 j298 j299 j300 j301 j302 j303 j304 j305 j306 j307 j308 j309 j310 j311 j312 j313 j314 j315 j316 j317 j318 j319 j320 j321 j322 j323 j324 j325 j326 j327 j328 j329 j330 j331 j332 j333 j334 j335 j336 j337 j338 j339 j340 j341 j342 j343 j344 j345 j346 j347 j348 j349 j350 j351 j352 j353 j354 j355 j356 j357 j358 j359 j360 j361 j362 j363 j364 j365 j366 j367 j368 j369 j370 j371 j372 j373 j374 j375 j376 j377 j378 j379 j380 j381 j382 j383 j384 j385 j386 j387 j388 j389 j390 j391 j392 j393 j394 j395 j396 j397 j398 j399 j400 j401 j402 j403 j404 j405 j406 j407 j408 j409 j410 j411 j412 j413 j414 j415 j416 j417 j418 j419 j420 j421 j422 j423 j424 j425 j426 j427 j428 : Value) (K : Act → World → Prop) (Q : Exit → Act → World → Prop)
    (hK : ∀ (v4 v258 v259 v260 v261 v262 v263 v264 v265 v266 v267 v268 v269 v270 v271 v272 v273 v274 v275 v276 v277 v278 v279 v280 v281 v282 v283 v284 v285 v286 v287 v288 v289 v290 v291 v292 v293 v294 v295 v296 v297 v298 v299 v300 v301 v302 v303 v304 v305 v306 v307 v308 v309 v310 v311 v312 v313 v314 v315 v316 v317 v318 v319 v320 v321 v322 v323 v324 v325 v326 v327 : Value) (wx : World), Below w7.heap.size w7 wx → K ⟨#[j0, j1, j2, j3, v4, .pointer (some ⟨nb, 0, none⟩), j6, .pointer (some ⟨E.ad .sch, 0, none⟩), j8, .slice (some ⟨TS, 0, none⟩) E.n E.n, .slice (some ⟨OG, 0, none⟩) E.n E.n, .slice (some ⟨SR, 0, none⟩) E.n E.n, j12, .slice (some ⟨IS, 0, none⟩) E.n E.n, j14, j15, j16, j17, j18, .pointer (some ⟨TB, 0, none⟩), j20, j21, .int .i64 k, .pointer (some ⟨E.ad (.tx k), 0, none⟩), j24, j25, j26, j27, j28, j29, j30, j31, j32, j33, j34, j35, j36, j37, j38, j39, j40, j41, j42, j43, j44, j45, j46, j47, j48, j49, j50, j51, j52, j53, j54, j55, j56, j57, j58, j59, j60, j61, j62, j63, j64, j65, j66, j67, j68, j69, j70, j71, j72, j73, j74, j75, j76, j77, j78, j79, j80, j81, j82, j83, j84, j85, j86, j87, j88, j89, j90, j91, j92, j93, j94, j95, j96, j97, j98, j99, j100, j101, j102, j103, j104, j105, j106, j107, j108, j109, j110, j111, j112, j113, j114, j115, j116, j117, j118, j119, j120, j121, j122, j123, j124, j125, j126, j127, j128, j129, j130, j131, j132, j133, j134, j135, j136, j137, j138, j139, j140, j141, j142, j143, j144, j145, j146, j147, j148, j149, j150, j151, j152, j153, j154, j155, j156, j157, j158, j159, j160, j161, j162, j163, j164, j165, j166, j167, j168, j169, j170, j171, j172, j173, j174, j175, j176, j177, j178, j179, j180, j181, j182, j183, j184, j185, j186, j187, j188, j189, j190, j191, j192, j193, j194, j195, j196, j197, j198, j199, j200, j201, j202, j203, j204, j205, j206, j207, j208, j209, j210, j211, j212, j213, j214, j215, j216, j217, j218, j219, j220, j221, j222, j223, j224, j225, j226, j227, j228, j229, j230, j231, j232, j233, j234, j235, j236, j237, j238, j239, j240, j241, j242, j243, j244, j245, j246, j247, j248, j249, j250, j251, j252, j253, j254, j255, j256, j257, v258, v259, v260, v261, v262, v263, v264, v265, v266, v267, v268, v269, v270, v271, v272, v273, v274, v275, v276, v277, v278, v279, v280, v281, v282, v283, v284, v285, v286, v287, v288, v289, v290, v291, v292, v293, v294, v295, v296, v297, v298, v299, v300, v301, v302, v303, v304, v305, v306, v307, v308, v309, v310, v311, v312, v313, v314, v315, v316, v317, v318, v319, v320, v321, v322, v323, v324, v325, v326, v327, j328, j329, j330, j331, j332, j333, j334, j335, j336, j337, j338, j339, j340, j341, j342, j343, j344, j345, j346, j347, j348, j349, j350, j351, j352, j353, j354, j355, j356, j357, j358, j359, j360, j361, j362, j363, j364, j365, j366, j367, j368, j369, j370, j371, j372, j373, j374, j375, j376, j377, j378, j379, j380, j381, j382, j383, j384, j385, j386, j387, j388, j389, j390, j391, j392, j393, j394, j395, j396, j397, j398, j399, j400, j401, j402, j403, j404, j405, j406, j407, j408, j409, j410, j411, j412, j413, j414, j415, j416, j417, j418, j419, j420, j421, j422, j423, j424, j425, j426, j427, j428], []⟩ wx) :
    Code.wp Ybaz.prog ((Ybaz.f3.body.bind (pickCond 258)).getD .skip) (Exit.then K Q)
      ⟨#[j0, j1, j2, j3, j4, .pointer (some ⟨nb, 0, none⟩), j6, .pointer (some ⟨E.ad .sch, 0, none⟩), j8, .slice (some ⟨TS, 0, none⟩) E.n E.n, .slice (some ⟨OG, 0, none⟩) E.n E.n, .slice (some ⟨SR, 0, none⟩) E.n E.n, j12, .slice (some ⟨IS, 0, none⟩) E.n E.n, j14, j15, j16, j17, j18, .pointer (some ⟨TB, 0, none⟩), j20, j21, .int .i64 k, .pointer (some ⟨E.ad (.tx k), 0, none⟩), j24, j25, j26, j27, j28, j29, j30, j31, j32, j33, j34, j35, j36, j37, j38, j39, j40, j41, j42, j43, j44, j45, j46, j47, j48, j49, j50, j51, j52, j53, j54, j55, j56, j57, j58, j59, j60, j61, j62, j63, j64, j65, j66, j67, j68, j69, j70, j71, j72, j73, j74, j75, j76, j77, j78, j79, j80, j81, j82, j83, j84, j85, j86, j87, j88, j89, j90, j91, j92, j93, j94, j95, j96, j97, j98, j99, j100, j101, j102, j103, j104, j105, j106, j107, j108, j109, j110, j111, j112, j113, j114, j115, j116, j117, j118, j119, j120, j121, j122, j123, j124, j125, j126, j127, j128, j129, j130, j131, j132, j133, j134, j135, j136, j137, j138, j139, j140, j141, j142, j143, j144, j145, j146, j147, j148, j149, j150, j151, j152, j153, j154, j155, j156, j157, j158, j159, j160, j161, j162, j163, j164, j165, j166, j167, j168, j169, j170, j171, j172, j173, j174, j175, j176, j177, j178, j179, j180, j181, j182, j183, j184, j185, j186, j187, j188, j189, j190, j191, j192, j193, j194, j195, j196, j197, j198, j199, j200, j201, j202, j203, j204, j205, j206, j207, j208, j209, j210, j211, j212, j213, j214, j215, j216, j217, j218, j219, j220, j221, j222, j223, j224, j225, j226, j227, j228, j229, j230, j231, j232, j233, j234, j235, j236, j237, j238, j239, j240, j241, j242, j243, j244, j245, j246, j247, j248, j249, j250, j251, j252, j253, j254, j255, j256, j257, .bool (!s.ow k), j259, j260, j261, j262, j263, j264, j265, j266, j267, j268, j269, j270, j271, j272, j273, j274, j275, j276, j277, j278, j279, j280, j281, j282, j283, j284, j285, j286, j287, j288, j289, j290, j291, j292, j293, j294, j295, j296, j297, j298, j299, j300, j301, j302, j303, j304, j305, j306, j307, j308, j309, j310, j311, j312, j313, j314, j315, j316, j317, j318, j319, j320, j321, j322, j323, j324, j325, j326, j327, j328, j329, j330, j331, j332, j333, j334, j335, j336, j337, j338, j339, j340, j341, j342, j343, j344, j345, j346, j347, j348, j349, j350, j351, j352, j353, j354, j355, j356, j357, j358, j359, j360, j361, j362, j363, j364, j365, j366, j367, j368, j369, j370, j371, j372, j373, j374, j375, j376, j377, j378, j379, j380, j381, j382, j383, j384, j385, j386, j387, j388, j389, j390, j391, j392, j393, j394, j395, j396, j397, j398, j399, j400, j401, j402, j403, j404, j405, j406, j407, j408, j409, j410, j411, j412, j413, j414, j415, j416, j417, j418, j419, j420, j421, j422, j423, j424, j425, j426, j427, j428], []⟩ w7 := by
  have hn := W.n
  have k0 : (0 : Int) ≤ (k : Int) := by omega
  have k1 : (k : Int) < (E.n : Int) := by omega
  have hk3 : k < 300 := by omega
  have hst := HST.out.below W HB7.out
  have hAr := HAR.out.below HB7.out
  have hTBb := HTB.out.below HB7.out (HTB.out.lt (by omega))
  have hTMb := HTM.out.below HB7.out hTMl5
  have cOG : w7.cell? ⟨OG, k, none⟩ = some (.string (og k)) := hAr.qo.1 k hlt
  have hOGl := hAr.lt.2.2.1
  have cSR : w7.cell? ⟨SR, k, none⟩ = some (.int .i64 (srcZ E k)) := hAr.qs.1 k hlt
  have hSRl := hAr.lt.2.2.2.1
  have cIS : w7.cell? ⟨IS, k, none⟩ = some (.pointer (some ⟨E.ad (.im k), 0, none⟩)) := hAr.qi.1 k hlt
  have hISl := hAr.lt.2.2.2.2
  have ht := (hst.loc (.tx k) hlt).1
  have htl := ht.lt (by omega)
  have t14 : w7.cell? ⟨E.ad (.tx k), 14, none⟩ = some (.string (s.ph k)) := ht.1 14 (by omega)
  have t16 : w7.cell? ⟨E.ad (.tx k), 16, none⟩ = some (one (s.wr k) (E.ad (.ws k))) := ht.1 16 (by omega)
  have t15 : w7.cell? ⟨E.ad (.tx k), 15, none⟩ = some (one (s.rd k) (E.ad (.rs k))) := ht.1 15 (by omega)
  have hIm : Blk w7 (E.ad (.im k)) 3 (imOf E s k) := hst.loc (.im k) hlt
  have i1 : w7.cell? ⟨E.ad (.im k), 1, none⟩ = some (opt (s.ow k) (E.ad (.tx k))) := hIm.1 1 (by omega)
  have hIl := hIm.lt (by omega)
  clear hst hAr hTBb hTMb ht hIm
  conv => arg 2; whnf
  dsimp only at hK ⊢
  go_cut [] from 258 to 327 (fun wx => Below w7.heap.size w7 wx)
  case first =>
    clear hK
    cases ho : s.ow k with
    | false =>
      rw [show s.ph k = ⟨#[116, 101, 114, 109, 105, 110, 97, 116, 101, 100]⟩ from by rw [HI.out.sh.ph k hlt, ho]; rfl] at t14
      rw [show one (s.wr k) (E.ad (.ws k)) = .slice none 0 0 from by rw [HI.out.sh.wr k hlt, ho]; rfl] at t16
      rw [show one (s.rd k) (E.ad (.rs k)) = .slice none 0 0 from by rw [HI.out.sh.rd k hlt, ho]; rfl] at t15
      rw [show opt (s.ow k) (E.ad (.tx k)) = .pointer none from by rw [ho]; rfl] at i1
      go_wp2_with fail
      go_meet
      case rel => exact Below.refl _ _
    | true =>
      rw [show s.ph k = og k from by rw [HI.out.sh.ph k hlt, ho]; rfl] at t14
      rw [show one (s.wr k) (E.ad (.ws k)) = .slice (some ⟨E.ad (.ws k), 0, none⟩) 1 1 from by rw [HI.out.sh.wr k hlt, ho]; rfl] at t16
      rw [show opt (s.ow k) (E.ad (.tx k)) = .pointer (some ⟨E.ad (.tx k), 0, none⟩) from by rw [ho]; rfl] at i1
      cases hs : E.src k with
      | none =>
        rw [show one (s.rd k) (E.ad (.rs k)) = .slice none 0 0 from by rw [HI.out.sh.rd k hlt, ho, hs]; rfl] at t15
        rw [show srcZ E k = -1 from by simp [srcZ, hs]] at cSR
        go_wp2_with fail
        go_quiet (fail)
        go_wp2_with fail
        go_quiet (fail)
        go_wp2_with fail
        go_meet
        case rel => exact ⟨rfl, rfl, rfl, Nat.le_refl _, fun _ _ => rfl⟩
      | some j =>
        rw [show one (s.rd k) (E.ad (.rs k)) = .slice (some ⟨E.ad (.rs k), 0, none⟩) 1 1 from by rw [HI.out.sh.rd k hlt, ho, hs]; rfl] at t15
        rw [show srcZ E k = (j : Int) from by simp [srcZ, hs]] at cSR
        have jd : decide ((0 : Int) ≤ (j : Int)) = true := decide_eq_true (by omega)
        go_wp2_with fail
        go_quiet (fail)
        go_wp2_with fail
        go_quiet (fail)
        go_wp2_with fail
        go_meet
        case rel => exact ⟨rfl, rfl, rfl, Nat.le_refl _, fun _ _ => rfl⟩
  case rest => exact hK _ _ _ _ _ _ _ _ _ _ _ _ _ _ _ _ _ _ _ _ _ _ _ _ _ _ _ _ _ _ _ _ _ _ _ _ _ _ _ _ _ _ _ _ _ _ _ _ _ _ _ _ _ _ _ _ _ _ _ _ _ _ _ _ _ _ _ _ _ _ _ wc hcut
end Go.Proofs.YbulkbpdqGreat
