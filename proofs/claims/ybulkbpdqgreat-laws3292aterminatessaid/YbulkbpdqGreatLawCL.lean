import Derived.Test.YbulkbpdqGreatPick
namespace Go.Proofs.YbulkbpdqGreat
open Go.ChangeShapes Go.WideShapes Go.ChangeAt Go.RowKit
set_option linter.unusedVariables false

set_option maxRecDepth 1000000 in
set_option maxHeartbeats 8000000 in
theorem part_l (E : Env) (W : E.Wf) (og : Nat → ByteArray) (s : Sta) (hnm : ∀ k, k < E.n → E.nm k = nmB k) (HI : Hid (Inv E og s)) (HCD : Hid (∀ k, k < E.n → s.cd k = false)) (nb TS OG SR IS TB TM : Nat) (w5 : World)
    (HST : Hid (St E s w5)) (HAR : Hid (Arr E og nb TS OG SR IS w5)) (HTB : Hid (Blk w5 TB 1 (fun _ => .slice (some ⟨TM, 0, none⟩) E.n E.n))) (HTM : Hid (Blk w5 TM E.n (fun i => .bool (!s.ow i)))) (hTMl5 : TM < w5.heap.size) (k : Nat) (hlt : k < E.n) (w7 : World) (HB7 : Hid (Below w5.heap.size w5 w7)) 
    (j0 j1 j2 j3 j4 j6 j8 j12 j14 j15 j16 j17 j18 j20 j21 j23 j24 j25 j28 j29 j30 j31 j32 j33 j34 j35 j36 j37 j38 j39 j40 j41 j42 j43 j44 j45 j46 j47 j48 j49 j50 j51 j52 j53 j54 j55 j56 j57 j58 j59 j60 j61 j62 j63 j64 j65 j66 j67 j68 j69 j70 j71 j72 j73 j74 j75 j76 j77 j78 j79 j80 j81 j82 j83 j84 j85 j86 j87 j88 j89 j90 j91 j92 j93 j94 j95 j96 j97 j98 j99 j100 j101 j102 j103 j104 j105 j106 j107 j108 j109 j110 j111 j112 j113 j114 j115 j116 j117 j118 j119 j120 j121 j122 j123 j124 j125 j126 j127 j128 j129 j130 j131 j132 j133 j134 j135 j136 j137 j138 j139 j140 j141 j142 j143 j144 j145 j146 j147 j148 j149 j150 j151 j152 j153 j154 j155 j156 j157 j158 j159 j160 j161 j162 j163 j164 j165 j166 j167 j168 j169 j170 j171 j172 j173 j174 j175 j176 j177 j178 j179 j180 j181 j182 j183 j184 j185 j186 j187 j188 j189 j190 j191 j192 j193 j194 j195 j196 j197 j198 j199 j200 j201 j202 j203 j204 j205 j206 j207 j208 j209 j210 j211 j212 j213 j214 j215 j216 j217 j218 j219 j220 j221 j222 j223 j224 j225 j226 j227 j228 j229 j230 j231 j232 j233 j234 j235 j236 j237 j238 j239 j240 j241 j242 j243 j244 j245 j246 j247 j248 j249 j250 j251 j252 j253 j254 j255 j256 j257 j258 j259 j260 j261 j262 j263 j264 j265 j266 j267 j268 j269 j270 j271 j272 j273 j274 j275 j276 j277 j278 j279 j280 j281 j282 j283 j284 j285 j286 j287 j288 j289 j290 j291 j292 j293 j294 j295 j296 j297 j298 j299 j300 j301 j302 j303 j304 j305 j306 j307 j308 j309 j310 j311 j312 j313 j314 j315 j316 j317 j318 j319 j320 j321 j322 j323 j324 j325 j326 j327 j328 j329 j330 j331 j332 j333 j334 j335 j336 j337 j338 j339 j340 j341 j342 j343 j344 j345 j346 j347 j348 j349 j350 j351 j352 j353 j354 j355 j356 j357 j358 j359 j360 j361 j362 j363 j364 j365 j366 j367 j368 j369 j370 j371 j372 j373 j374 j375 j376 j377 j378 j379 j380 j381 j382 j383 j384 j385 j386 j387 j388 j389 j390 j391 j392 j393 j394 j395 j396 j397 j398 j399 j400 j401 j402 j403 j404 j405 j406 j407 j408 j409 j410 j411 j412 j413 j414 j415 j416 j417 j418 j419 j420 j421 j422 j423 j424 j425 j426 j427 j428 : Value) (K : Act → World → Prop) (Q : Exit → Act → World → Prop)
    (hK : ∀ (v27 v344 v345 v346 v347 v348 v349 v350 v351 v352 v353 v354 v355 v356 v357 v358 v359 v360 v361 : Value), K ⟨#[j0, j1, j2, j3, j4, .pointer (some ⟨nb, 0, none⟩), j6, .pointer (some ⟨E.ad .sch, 0, none⟩), j8, .slice (some ⟨TS, 0, none⟩) E.n E.n, .slice (some ⟨OG, 0, none⟩) E.n E.n, .slice (some ⟨SR, 0, none⟩) E.n E.n, j12, .slice (some ⟨IS, 0, none⟩) E.n E.n, j14, j15, j16, j17, j18, .pointer (some ⟨TB, 0, none⟩), j20, j21, .int .i64 k, j23, j24, j25, .bool (live E s k E.n), v27, j28, j29, j30, j31, j32, j33, j34, j35, j36, j37, j38, j39, j40, j41, j42, j43, j44, j45, j46, j47, j48, j49, j50, j51, j52, j53, j54, j55, j56, j57, j58, j59, j60, j61, j62, j63, j64, j65, j66, j67, j68, j69, j70, j71, j72, j73, j74, j75, j76, j77, j78, j79, j80, j81, j82, j83, j84, j85, j86, j87, j88, j89, j90, j91, j92, j93, j94, j95, j96, j97, j98, j99, j100, j101, j102, j103, j104, j105, j106, j107, j108, j109, j110, j111, j112, j113, j114, j115, j116, j117, j118, j119, j120, j121, j122, j123, j124, j125, j126, j127, j128, j129, j130, j131, j132, j133, j134, j135, j136, j137, j138, j139, j140, j141, j142, j143, j144, j145, j146, j147, j148, j149, j150, j151, j152, j153, j154, j155, j156, j157, j158, j159, j160, j161, j162, j163, j164, j165, j166, j167, j168, j169, j170, j171, j172, j173, j174, j175, j176, j177, j178, j179, j180, j181, j182, j183, j184, j185, j186, j187, j188, j189, j190, j191, j192, j193, j194, j195, j196, j197, j198, j199, j200, j201, j202, j203, j204, j205, j206, j207, j208, j209, j210, j211, j212, j213, j214, j215, j216, j217, j218, j219, j220, j221, j222, j223, j224, j225, j226, j227, j228, j229, j230, j231, j232, j233, j234, j235, j236, j237, j238, j239, j240, j241, j242, j243, j244, j245, j246, j247, j248, j249, j250, j251, j252, j253, j254, j255, j256, j257, j258, j259, j260, j261, j262, j263, j264, j265, j266, j267, j268, j269, j270, j271, j272, j273, j274, j275, j276, j277, j278, j279, j280, j281, j282, j283, j284, j285, j286, j287, j288, j289, j290, j291, j292, j293, j294, j295, j296, j297, j298, j299, j300, j301, j302, j303, j304, j305, j306, j307, j308, j309, j310, j311, j312, j313, j314, j315, j316, j317, j318, j319, j320, j321, j322, j323, j324, j325, j326, j327, j328, j329, j330, j331, j332, j333, j334, j335, j336, j337, j338, j339, j340, j341, j342, j343, v344, v345, v346, v347, v348, v349, v350, v351, v352, v353, v354, v355, v356, v357, v358, v359, v360, v361, j362, j363, j364, j365, j366, j367, j368, j369, j370, j371, j372, j373, j374, j375, j376, j377, j378, j379, j380, j381, j382, j383, j384, j385, j386, j387, j388, j389, j390, j391, j392, j393, j394, j395, j396, j397, j398, j399, j400, j401, j402, j403, j404, j405, j406, j407, j408, j409, j410, j411, j412, j413, j414, j415, j416, j417, j418, j419, j420, j421, j422, j423, j424, j425, j426, j427, j428], []⟩ w7) :
    Code.wp Ybaz.prog ((Ybaz.f3.body.bind (pickBlock 14)).getD .skip) (Exit.then K Q)
      ⟨#[j0, j1, j2, j3, j4, .pointer (some ⟨nb, 0, none⟩), j6, .pointer (some ⟨E.ad .sch, 0, none⟩), j8, .slice (some ⟨TS, 0, none⟩) E.n E.n, .slice (some ⟨OG, 0, none⟩) E.n E.n, .slice (some ⟨SR, 0, none⟩) E.n E.n, j12, .slice (some ⟨IS, 0, none⟩) E.n E.n, j14, j15, j16, j17, j18, .pointer (some ⟨TB, 0, none⟩), j20, j21, .int .i64 k, j23, j24, j25, .bool false, .int .i64 0, j28, j29, j30, j31, j32, j33, j34, j35, j36, j37, j38, j39, j40, j41, j42, j43, j44, j45, j46, j47, j48, j49, j50, j51, j52, j53, j54, j55, j56, j57, j58, j59, j60, j61, j62, j63, j64, j65, j66, j67, j68, j69, j70, j71, j72, j73, j74, j75, j76, j77, j78, j79, j80, j81, j82, j83, j84, j85, j86, j87, j88, j89, j90, j91, j92, j93, j94, j95, j96, j97, j98, j99, j100, j101, j102, j103, j104, j105, j106, j107, j108, j109, j110, j111, j112, j113, j114, j115, j116, j117, j118, j119, j120, j121, j122, j123, j124, j125, j126, j127, j128, j129, j130, j131, j132, j133, j134, j135, j136, j137, j138, j139, j140, j141, j142, j143, j144, j145, j146, j147, j148, j149, j150, j151, j152, j153, j154, j155, j156, j157, j158, j159, j160, j161, j162, j163, j164, j165, j166, j167, j168, j169, j170, j171, j172, j173, j174, j175, j176, j177, j178, j179, j180, j181, j182, j183, j184, j185, j186, j187, j188, j189, j190, j191, j192, j193, j194, j195, j196, j197, j198, j199, j200, j201, j202, j203, j204, j205, j206, j207, j208, j209, j210, j211, j212, j213, j214, j215, j216, j217, j218, j219, j220, j221, j222, j223, j224, j225, j226, j227, j228, j229, j230, j231, j232, j233, j234, j235, j236, j237, j238, j239, j240, j241, j242, j243, j244, j245, j246, j247, j248, j249, j250, j251, j252, j253, j254, j255, j256, j257, j258, j259, j260, j261, j262, j263, j264, j265, j266, j267, j268, j269, j270, j271, j272, j273, j274, j275, j276, j277, j278, j279, j280, j281, j282, j283, j284, j285, j286, j287, j288, j289, j290, j291, j292, j293, j294, j295, j296, j297, j298, j299, j300, j301, j302, j303, j304, j305, j306, j307, j308, j309, j310, j311, j312, j313, j314, j315, j316, j317, j318, j319, j320, j321, j322, j323, j324, j325, j326, j327, j328, j329, j330, j331, j332, j333, j334, j335, j336, j337, j338, j339, j340, j341, j342, j343, j344, j345, j346, j347, j348, j349, j350, j351, j352, j353, j354, j355, j356, j357, j358, j359, j360, j361, j362, j363, j364, j365, j366, j367, j368, j369, j370, j371, j372, j373, j374, j375, j376, j377, j378, j379, j380, j381, j382, j383, j384, j385, j386, j387, j388, j389, j390, j391, j392, j393, j394, j395, j396, j397, j398, j399, j400, j401, j402, j403, j404, j405, j406, j407, j408, j409, j410, j411, j412, j413, j414, j415, j416, j417, j418, j419, j420, j421, j422, j423, j424, j425, j426, j427, j428], []⟩ w7 := by
  have hn := W.n
  have k0 : (0 : Int) ≤ (k : Int) := by omega
  have k1 : (k : Int) < (E.n : Int) := by omega
  have hk3 : k < 300 := by omega
  have hst := HST.out.below W HB7.out
  have hAr := HAR.out.below HB7.out
  have hTBb := HTB.out.below HB7.out (HTB.out.lt (by omega))
  have hTMb := HTM.out.below HB7.out hTMl5
  have nc : w7.cell? ⟨nb, 0, none⟩ = some (.int .i64 E.n) := hAr.qn.1 0 (by omega)
  have hnl2 := hAr.lt.1
  have cTB : w7.cell? ⟨TB, 0, none⟩ = some (.slice (some ⟨TM, 0, none⟩) E.n E.n) := hTBb.1 0 (by omega)
  have hTBl := hTBb.lt (by omega)
  have HSRr : Hid (∀ r, r < E.n → w7.cell? ⟨SR, r, none⟩ = some (.int .i64 (srcZ E r)) ∧ w7.cell? ⟨TM, r, none⟩ = some (.bool (!s.ow r))) := fun r hr => ⟨hAr.qs.1 r hr, hTMb.1 r hr⟩
  have hSRl := hAr.lt.2.2.2.1
  have hTMl := hTMb.lt (by omega)
  clear hst hAr hTBb hTMb
  conv => arg 2; whnf
  dsimp only at hK ⊢
  go_cut [26, 27] from 344 to 361 (fun v _ wx => v = .bool (live E s k E.n) ∧ wx = w7)
  case first =>
    clear hK
    go_wp2_with fail
    go_loopw [26, 27] (fun v i wr => ∃ r : Nat, r ≤ E.n ∧ i = .int .i64 r ∧ v = .bool (live E s k r) ∧ wr = w7) (fun _ i _ => E.n - (intOf i).toNat)
    case atStart => exact ⟨0, by omega, rfl, rfl, rfl⟩
    case round =>
      obtain ⟨r, hr, rfl, rfl, hwr⟩ := hrel
      subst hwr
      by_cases hrl : r < E.n
      · obtain ⟨cSRr, cTMr⟩ := HSRr.out r hrl
        have HLS : Hid (live E s k (r + 1) = (live E s k r || (decide (E.src r = some k) && s.ow r))) := live_succ E s k r
        have r0' : (0 : Int) ≤ (r : Int) := by omega
        have r1' : (r : Int) < (E.n : Int) := by omega
        by_cases hrk' : E.src r = some k
        · rw [show srcZ E r = (k : Int) from by simp [srcZ, hrk']] at cSRr
          cases hor : s.ow r with
          | true =>
            have HL1 : Hid (live E s k (r + 1) = true) := by show live E s k (r + 1) = true; rw [HLS.out, hor]; simp [hrk']
            rw [hor] at cTMr
            clear HLS hor hrk'
            go_wp2_with fail
            go_roundw
            case rel => exact ⟨r + 1, by omega, by go_num, by rw [HL1.out], trivial⟩
            case measure => simp [intOf]; omega
          | false =>
            have HL1 : Hid (live E s k (r + 1) = live E s k r) := by show live E s k (r + 1) = live E s k r; rw [HLS.out, hor]; simp
            rw [hor] at cTMr
            clear HLS hor hrk'
            go_wp2_with fail
            go_roundw
            case rel => exact ⟨r + 1, by omega, by go_num, by rw [HL1.out], trivial⟩
            case measure => simp [intOf]; omega
        · have HL1 : Hid (live E s k (r + 1) = live E s k r) := by show live E s k (r + 1) = live E s k r; rw [HLS.out]; simp [hrk']
          have hne : (srcZ E r == (k : Int)) = false := by
            rw [beq_eq_false_iff_ne]
            intro e
            unfold srcZ at e
            cases hsr : E.src r with
            | none => rw [hsr] at e; have e' : (-1 : Int) = (k : Int) := e; omega
            | some q => rw [hsr] at e; have e' : (q : Int) = (k : Int) := e; exact hrk' (by rw [hsr]; congr 1; omega)
          clear HLS hrk'
          go_wp2_with fail
          go_roundw
          case rel => exact ⟨r + 1, by omega, by go_num, by rw [HL1.out], trivial⟩
          case measure => simp [intOf]; omega
      · obtain rfl : r = E.n := by omega
        clear HSRr
        go_wp2_with fail
        go_meet
        case rel => exact ⟨rfl, rfl⟩
  case rest =>
    obtain ⟨rfl, rfl⟩ := hcut
    exact hK _ _ _ _ _ _ _ _ _ _ _ _ _ _ _ _ _ _ _
end Go.Proofs.YbulkbpdqGreat
