import Derived.Test.YbulkbpdqGreatFix
import Derived.Laws.BytesArg
namespace Go.Proofs.YbulkbpdqGreat
open Go.ChangeShapes Go.WideShapes Go.ChangeAt Go.RowKit
set_option linter.unusedVariables false

/-- An item's name. -/
def nmB (k : Nat) : ByteArray := strOfNums [97 + (k : Int) / 26, 97 + (k : Int) % 26]

theorem u8_inj {a b : Nat} (ha : a < 256) (hb : b < 256) (h : UInt8.ofNat a = UInt8.ofNat b) : a = b := by
  have := congrArg UInt8.toNat h
  simp [UInt8.toNat_ofNat'] at this
  omega

theorem nmB_inj {k j : Nat} (hk : k < 300) (hj : j < 300) (h : nmB k = nmB j) : k = j := by
  unfold nmB strOfNums at h
  injection h with h
  have h1 := congrArg Array.toList h
  simp at h1
  obtain ⟨h2, h3⟩ := h1
  have e1 : (97 + (k : Int) / 26).toNat = 97 + k / 26 := by omega
  have e2 : (97 + (j : Int) / 26).toNat = 97 + j / 26 := by omega
  have e3 : (97 + (k : Int) % 26).toNat = 97 + k % 26 := by omega
  have e4 : (97 + (j : Int) % 26).toNat = 97 + j % 26 := by omega
  rw [e1, e2] at h2
  rw [e3, e4] at h3
  have := u8_inj (by omega) (by omega) h2
  have := u8_inj (by omega) (by omega) h3
  omega

set_option maxRecDepth 100000 in
set_option maxHeartbeats 1000000 in
theorem name_any (k : Nat) (hk : k < 300) (w : World) :
    Calls Ybaz.prog 9 #[.int .i64 k] w fun e w' => e = .returned (.string (nmB k)) ∧ w' = w.alloc (.cells #[.int .u8 (97 + (k : Int) / 26), .int .u8 (97 + (k : Int) % 26)] 5) := by
  have h1 : IntKind.u8.wrap ((k : Int) / 26) = (k : Int) / 26 := IntWalk.u8_in _ ⟨by omega, by omega⟩
  have hcv := run_convert_bytes_arg (P := Ybaz.prog) (w.alloc (.cells #[.int .u8 (97 + (k : Int) / 26), .int .u8 (97 + (k : Int) % 26)] 5)) 90 5 Ybaz.underlying90 Ybaz.underlying5 w.heap.size 0 2 2 [97 + (k : Int) / 26, 97 + (k : Int) % 26] rfl (fun i hi => by
    rw [World.cell?_alloc_new]
    rcases (show i = 0 ∨ i = 1 from by omega) with rfl | rfl <;> rfl) 9 Ybaz.underlying9
  go_enter Ybaz.func9, Ybaz.ntmps9
  go_wp2
  go_ret
  exact ⟨rfl, rfl⟩

theorem cnt_step (t : Nat → Bool) (k : Nat) : cnt (k + 1) t = cnt k t + (if t k then 1 else 0) := by
  unfold cnt
  rw [List.range_succ, List.filter_append, List.length_append]
  cases h : t k <;> simp [List.filter, h]

set_option maxRecDepth 100000 in
set_option maxHeartbeats 1000000 in
/-- The law's own count. -/
theorem count_any (nb TB TM n : Nat) (t : Nat → Bool) (hn : n ≤ 300) (w : World) (h1 : w.cell? ⟨nb, 0, none⟩ = some (.int .i64 n)) (h2 : w.cell? ⟨TB, 0, none⟩ = some (.slice (some ⟨TM, 0, none⟩) n n)) (h3 : Blk w TM n (fun i => .bool (t i))) :
    Calls Ybaz.prog 13 #[.pointer (some ⟨nb, 0, none⟩), .pointer (some ⟨TB, 0, none⟩)] w fun e w' => e = .returned (.int .i64 (cnt n t)) ∧ w' = w := by
  go_enter Ybaz.func13, Ybaz.ntmps13
  go_wp2_with fail
  go_loopw [3, 4] (fun v i wr => ∃ k : Nat, k ≤ n ∧ i = .int .i64 k ∧ v = .int .i64 (cnt k t) ∧ wr = w) (fun _ i _ => n - (intOf i).toNat)
  case atStart => exact ⟨0, by omega, rfl, by simp [cnt], rfl⟩
  case round =>
    obtain ⟨k, hk, rfl, rfl, rfl⟩ := hrel
    have hc := cnt_le k t
    by_cases hlt : k < n
    · have c : wr.cell? ⟨TM, k, none⟩ = some (.bool (t k)) := h3.1 k hlt
      have hl := h3.lt (by omega)
      have HS : Hid (cnt (k + 1) t = cnt k t + (if t k then 1 else 0)) := cnt_step t k
      have hc8 : cnt k t ≤ 300 := by omega
      have k0 : (0 : Int) ≤ (k : Int) := by omega
      have k1 : (k : Int) < (n : Int) := by omega
      cases ht : t k with
      | true =>
        rw [ht] at c
        go_wp2_with fail
        go_roundw
        case rel => exact ⟨k + 1, by omega, by go_num, by rw [HS.out, ht]; simp, trivial⟩
        case measure => simp [intOf]; omega
      | false =>
        rw [ht] at c
        go_wp2_with fail
        go_roundw
        case rel => exact ⟨k + 1, by omega, by go_num, by rw [HS.out, ht]; simp, trivial⟩
        case measure => simp [intOf]; omega
    · obtain rfl : k = n := by omega
      go_wp2_with fail
      go_ret
      exact ⟨rfl, rfl⟩
end Go.Proofs.YbulkbpdqGreat
