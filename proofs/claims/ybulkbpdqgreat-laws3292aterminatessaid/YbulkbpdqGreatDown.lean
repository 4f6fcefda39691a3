import Derived.Test.YbulkbpdqGreatUp
namespace Go.Proofs.YbulkbpdqGreat
open Go.ChangeShapes Go.WideShapes Go.ChangeAt Go.RowKit
set_option linter.unusedVariables false

set_option maxRecDepth 100000 in
set_option maxHeartbeats 4000000 in
theorem down_any (N o g cap n : Nat) (L : List Nat) (w : World) (hc : w.cell? ⟨N, o, none⟩ = some (.slice (some ⟨g, 0, none⟩) L.length cap)) (hNg : N ≠ g) (h : HQ w g cap L) (hL : 0 < L.length) (hn : n ≤ L.length) (hl : L.length ≤ 1099511627776) :
    Calls Ybaz.prog 43 #[.iface 139 (.pointer (some ⟨N, o, none⟩)), .int .i64 0, .int .i64 n] w fun e w' => (∃ t : Bool, e = .returned (.bool t)) ∧ ∃ L', L'.Perm L ∧ HQ w' g cap L' ∧ Kp (fun k => k = g) w w' := by
  have hN : N < w.heap.size := by
    by_cases e : N < w.heap.size
    · exact e
    · simp [World.cell?, Array.getElem?_eq_none (Nat.le_of_not_lt e)] at hc
  go_enter Ybaz.func43, Ybaz.ntmps43
  go_wp2_with fail
  go_loopw [7] (fun v wr => ∃ (i : Nat) (L' : List Nat), i < L.length ∧ i ≤ n ∧ v = .int .i64 i ∧ L'.Perm L ∧ HQ wr g cap L' ∧ Kp (fun k => k = g) w wr) (fun v _ => n - (intOf v).toNat)
  case atStart => exact ⟨0, L, hL, by omega, rfl, List.Perm.refl _, h, Kp.refl _ _⟩
  case round =>
    obtain ⟨i, L', hi, hin, rfl, hp, hQ, hK⟩ := hrel
    have hll := hp.length_eq
    have hc' : wr.cell? ⟨N, o, none⟩ = some (.slice (some ⟨g, 0, none⟩) L'.length cap) := by rw [hll]; exact (World.cell?_of_block (w := w) (hK.block N hN hNg)).trans hc
    have hNr : N < wr.heap.size := Nat.lt_of_lt_of_le hN hK.size
    have HP : Hid (L'.Perm L) := hp
    have hi' : i < L'.length := by omega
    have hn' : n ≤ L'.length := by omega
    have hl' : L'.length ≤ 1099511627776 := by omega
    have HLL : Hid (L'.length = L.length) := hll
    clear hll hp
    by_cases j1 : 2 * i + 1 < n
    · have d1 : decide ((n : Int) ≤ 2 * (i : Int) + 1) = false := decide_eq_false (by omega)
      have d2 : decide (2 * (i : Int) + 1 < 0) = false := decide_eq_false (by omega)
      by_cases j2 : 2 * i + 2 < n
      · have d3 : decide (2 * (i : Int) + 1 + 1 < (n : Int)) = true := decide_eq_true (by omega)
        obtain ⟨x, hx⟩ : ∃ x, L'[2 * i + 2]? = some x := ⟨_, List.getElem?_eq_getElem (by omega)⟩
        obtain ⟨y, hy⟩ : ∃ y, L'[2 * i + 1]? = some y := ⟨_, List.getElem?_eq_getElem (by omega)⟩
        go_wp2_with fail
        refine (less_any g cap (2 * i + 2) (2 * i + 1) x y L' wr hQ hx hy).mono ?_
        rintro e w2 ⟨⟨t, rfl⟩, hB⟩
        have hQ2 := hQ.below hB
        have hK2 := hK.then hB
        have hN2 : N < w2.heap.size := Nat.lt_of_lt_of_le hNr hB.size
        have hc2 : w2.cell? ⟨N, o, none⟩ = some (.slice (some ⟨g, 0, none⟩) L'.length cap) := (hB.cell (p := ⟨N, o, none⟩) hNr).trans hc'
        clear hB hx hy
        cases t with
        | true =>
          obtain ⟨b, hb⟩ : ∃ b, L'[2 * i + 2]? = some b := ⟨_, List.getElem?_eq_getElem (by omega)⟩
          obtain ⟨c, hcc⟩ : ∃ c, L'[i]? = some c := ⟨_, List.getElem?_eq_getElem (by omega)⟩
          go_wp2_with fail
          refine (less_any g cap (2 * i + 2) i b c L' w2 hQ2 hb hcc).mono ?_
          rintro e w3 ⟨⟨t2, rfl⟩, hB3⟩
          have hQ3 := hQ2.below hB3
          have hK3 := hK2.then hB3
          have hN3 : N < w3.heap.size := Nat.lt_of_lt_of_le hN2 hB3.size
          have hc3 : w3.cell? ⟨N, o, none⟩ = some (.slice (some ⟨g, 0, none⟩) L'.length cap) := (hB3.cell (p := ⟨N, o, none⟩) hN2).trans hc2
          clear hB3
          cases t2 with
          | false =>
            go_wp2_with fail
            go_ret
            exact ⟨⟨_, rfl⟩, L', HP.out, hQ3, hK3⟩
          | true =>
            go_wp2_with fail
            refine (swap_any g cap i (2 * i + 2) c b L' w3 hQ3 hcc hb).mono ?_
            rintro e w4 ⟨rfl, hQ4, hK4⟩
            have HF : Hid (((L'.set i b).set (2 * i + 2) c).Perm L ∧ HQ w4 g cap ((L'.set i b).set (2 * i + 2) c) ∧ Kp (fun k => k = g) w w4) := ⟨(hQ3.swap hcc hb).2.2.trans HP.out, hQ4, hK3.trans hK4⟩
            clear hQ4 hK4
            go_wp2_with fail
            go_roundw
            case rel => exact ⟨2 * i + 2, _, by omega, by omega, by go_num, HF.out.1, HF.out.2⟩
            case measure => simp [intOf]; omega
        | false =>
          obtain ⟨b, hb⟩ : ∃ b, L'[2 * i + 1]? = some b := ⟨_, List.getElem?_eq_getElem (by omega)⟩
          obtain ⟨c, hcc⟩ : ∃ c, L'[i]? = some c := ⟨_, List.getElem?_eq_getElem (by omega)⟩
          go_wp2_with fail
          refine (less_any g cap (2 * i + 1) i b c L' w2 hQ2 hb hcc).mono ?_
          rintro e w3 ⟨⟨t2, rfl⟩, hB3⟩
          have hQ3 := hQ2.below hB3
          have hK3 := hK2.then hB3
          have hN3 : N < w3.heap.size := Nat.lt_of_lt_of_le hN2 hB3.size
          have hc3 : w3.cell? ⟨N, o, none⟩ = some (.slice (some ⟨g, 0, none⟩) L'.length cap) := (hB3.cell (p := ⟨N, o, none⟩) hN2).trans hc2
          clear hB3
          cases t2 with
          | false =>
            go_wp2_with fail
            go_ret
            exact ⟨⟨_, rfl⟩, L', HP.out, hQ3, hK3⟩
          | true =>
            go_wp2_with fail
            refine (swap_any g cap i (2 * i + 1) c b L' w3 hQ3 hcc hb).mono ?_
            rintro e w4 ⟨rfl, hQ4, hK4⟩
            have HF : Hid (((L'.set i b).set (2 * i + 1) c).Perm L ∧ HQ w4 g cap ((L'.set i b).set (2 * i + 1) c) ∧ Kp (fun k => k = g) w w4) := ⟨(hQ3.swap hcc hb).2.2.trans HP.out, hQ4, hK3.trans hK4⟩
            clear hQ4 hK4
            go_wp2_with fail
            go_roundw
            case rel => exact ⟨2 * i + 1, _, by omega, by omega, by go_num, HF.out.1, HF.out.2⟩
            case measure => simp [intOf]; omega
      · have d3 : decide (2 * (i : Int) + 1 + 1 < (n : Int)) = false := decide_eq_false (by omega)
        obtain ⟨b, hb⟩ : ∃ b, L'[2 * i + 1]? = some b := ⟨_, List.getElem?_eq_getElem (by omega)⟩
        obtain ⟨c, hcc⟩ : ∃ c, L'[i]? = some c := ⟨_, List.getElem?_eq_getElem (by omega)⟩
        go_wp2_with fail
        refine (less_any g cap (2 * i + 1) i b c L' wr hQ hb hcc).mono ?_
        rintro e w3 ⟨⟨t2, rfl⟩, hB3⟩
        have hQ3 := hQ.below hB3
        have hK3 := hK.then hB3
        have hN3 : N < w3.heap.size := Nat.lt_of_lt_of_le hNr hB3.size
        have hc3 : w3.cell? ⟨N, o, none⟩ = some (.slice (some ⟨g, 0, none⟩) L'.length cap) := (hB3.cell (p := ⟨N, o, none⟩) hNr).trans hc'
        clear hB3
        cases t2 with
        | false =>
          go_wp2_with fail
          go_ret
          exact ⟨⟨_, rfl⟩, L', HP.out, hQ3, hK3⟩
        | true =>
          go_wp2_with fail
          refine (swap_any g cap i (2 * i + 1) c b L' w3 hQ3 hcc hb).mono ?_
          rintro e w4 ⟨rfl, hQ4, hK4⟩
          have HF : Hid (((L'.set i b).set (2 * i + 1) c).Perm L ∧ HQ w4 g cap ((L'.set i b).set (2 * i + 1) c) ∧ Kp (fun k => k = g) w w4) := ⟨(hQ3.swap hcc hb).2.2.trans HP.out, hQ4, hK3.trans hK4⟩
          clear hQ4 hK4
          go_wp2_with fail
          go_roundw
          case rel => exact ⟨2 * i + 1, _, by omega, by omega, by go_num, HF.out.1, HF.out.2⟩
          case measure => simp [intOf]; omega
    · have d1 : decide ((n : Int) ≤ 2 * (i : Int) + 1) = true := decide_eq_true (by omega)
      go_wp2_with fail
      go_ret
      exact ⟨⟨_, rfl⟩, L', HP.out, hQ, hK⟩
end Go.Proofs.YbulkbpdqGreat
