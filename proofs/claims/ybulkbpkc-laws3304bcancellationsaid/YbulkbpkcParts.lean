import Derived.Test.YbulkbpkcBlk
import Derived.Deep.RegionWith
import Derived.Deep.RegionLaw
import Derived.Deep.AppendLies
import Derived.Deep.DeepCutAuto
namespace Go.Proofs.Ybulkbpkc
open Go.ChangeShapes Go.WideShapes Go.ChangeAt Go.RowKit
set_option linter.unusedVariables false

/-- The law's one network. -/
abbrev s1 : ByteArray := ⟨#[48, 48, 49]⟩
abbrev s2 : ByteArray := ⟨#[48, 49]⟩

set_option maxRecDepth 100000 in
theorem plmn_any (w : World) : Calls Yba.prog 4 #[] w fun e w' => e = .returned (.agg #[.string s1, .string s2]) ∧ Below w.heap.size w w' := by
  go_enter Yba.func4, Yba.ntmps4
  go_wp2
  exact bodyPost_ret (v := .agg #[.string s1, .string s2]) (by simp [results, Yba.results4, go_sem]) rfl ⟨rfl, (Below.refl _ _).alloc (Nat.le_refl _) _⟩

set_option maxRecDepth 100000 in
set_option maxHeartbeats 1000000 in
theorem tai_any (x : Int) (h0 : 0 ≤ x) (h1 : x ≤ 255) (w : World) : Calls Yba.prog 5 #[.int .u8 x] w fun e w' => e = .returned (.agg #[.string s1, .string s2, .int .u16 (x % 4)]) ∧ Below w.heap.size w w' := by
  have hx := Blk.fresh w #[.string ⟨#[]⟩, .string ⟨#[]⟩, .int .u16 0] 63
  have hB0 : Below w.heap.size w (w.alloc (.cells #[.string ⟨#[]⟩, .string ⟨#[]⟩, .int .u16 0] 63)) := (Below.refl _ _).alloc (Nat.le_refl _) _
  have hP : w.heap.size < (w.alloc (.cells #[.string ⟨#[]⟩, .string ⟨#[]⟩, .int .u16 0] 63)).heap.size := by simp
  go_enter Yba.func5, Yba.ntmps5
  go_wp2_with fail
  refine (plmn_any _).mono ?_
  rintro e w2 ⟨rfl, hB⟩
  have hx2 := hx.below hB hP
  have c0 := hx2.1 0 (by simp)
  have c1 := hx2.1 1 (by simp)
  have c2 := hx2.1 2 (by simp)
  have f0 := hx2.2 0
  have f1 := hx2.2 1
  have f2 := hx2.2 2
  have hB2 : Below w.heap.size w w2 := hB0.trans (hB.mono (by simp))
  clear hx hB0 hB
  have hx3 := ((hx2.set 0 (by simp) (.string s1)).set 1 (by simp) (.string s2)).set 2 (by simp) (.int .u16 (x % 4))
  go_wp2
  have d0 : (((w2.setCell ⟨w.heap.size, 0, none⟩ (.string s1)).setCell ⟨w.heap.size, 1, none⟩ (.string s2)).setCell ⟨w.heap.size, 2, none⟩ (.int .u16 (x % 4))).cell? ⟨w.heap.size, 0, none⟩ = some (.string s1) := hx3.1 0 (by simp)
  have d1 : (((w2.setCell ⟨w.heap.size, 0, none⟩ (.string s1)).setCell ⟨w.heap.size, 1, none⟩ (.string s2)).setCell ⟨w.heap.size, 2, none⟩ (.int .u16 (x % 4))).cell? ⟨w.heap.size, 1, none⟩ = some (.string s2) := hx3.1 1 (by simp)
  have d2 : (((w2.setCell ⟨w.heap.size, 0, none⟩ (.string s1)).setCell ⟨w.heap.size, 1, none⟩ (.string s2)).setCell ⟨w.heap.size, 2, none⟩ (.int .u16 (x % 4))).cell? ⟨w.heap.size, 2, none⟩ = some (.int .u16 (x % 4)) := hx3.1 2 (by simp)
  have hB3 : Below w.heap.size w (((w2.setCell ⟨w.heap.size, 0, none⟩ (.string s1)).setCell ⟨w.heap.size, 1, none⟩ (.string s2)).setCell ⟨w.heap.size, 2, none⟩ (.int .u16 (x % 4))) := ((hB2.setCell (Nat.le_refl _) _).setCell (Nat.le_refl _) _).setCell (Nat.le_refl _) _
  generalize World.setCell _ _ _ = w5 at d0 d1 d2 hB3 ⊢
  exact bodyPost_ret (v := .agg #[.string s1, .string s2, .int .u16 (x % 4)]) (by simp [results, Yba.results5, go_sem, d0, d1, d2]) rfl ⟨rfl, hB3⟩

set_option maxRecDepth 100000 in
set_option maxHeartbeats 1000000 in
theorem cell_any (x : Int) (h0 : 0 ≤ x) (h1 : x ≤ 255) (w : World) : Calls Yba.prog 6 #[.int .u8 x] w fun e w' => e = .returned (.agg #[.string s1, .string s2, .int .u32 (x % 8)]) ∧ Below w.heap.size w w' := by
  have hx := Blk.fresh w #[.string ⟨#[]⟩, .string ⟨#[]⟩, .int .u32 0] 68
  have hB0 : Below w.heap.size w (w.alloc (.cells #[.string ⟨#[]⟩, .string ⟨#[]⟩, .int .u32 0] 68)) := (Below.refl _ _).alloc (Nat.le_refl _) _
  have hP : w.heap.size < (w.alloc (.cells #[.string ⟨#[]⟩, .string ⟨#[]⟩, .int .u32 0] 68)).heap.size := by simp
  go_enter Yba.func6, Yba.ntmps6
  go_wp2_with fail
  refine (plmn_any _).mono ?_
  rintro e w2 ⟨rfl, hB⟩
  have hx2 := hx.below hB hP
  have c0 := hx2.1 0 (by simp)
  have c1 := hx2.1 1 (by simp)
  have c2 := hx2.1 2 (by simp)
  have f0 := hx2.2 0
  have f1 := hx2.2 1
  have f2 := hx2.2 2
  have hB2 : Below w.heap.size w w2 := hB0.trans (hB.mono (by simp))
  clear hx hB0 hB
  have hx3 := ((hx2.set 0 (by simp) (.string s1)).set 1 (by simp) (.string s2)).set 2 (by simp) (.int .u32 (x % 8))
  go_wp2
  have d0 : (((w2.setCell ⟨w.heap.size, 0, none⟩ (.string s1)).setCell ⟨w.heap.size, 1, none⟩ (.string s2)).setCell ⟨w.heap.size, 2, none⟩ (.int .u32 (x % 8))).cell? ⟨w.heap.size, 0, none⟩ = some (.string s1) := hx3.1 0 (by simp)
  have d1 : (((w2.setCell ⟨w.heap.size, 0, none⟩ (.string s1)).setCell ⟨w.heap.size, 1, none⟩ (.string s2)).setCell ⟨w.heap.size, 2, none⟩ (.int .u32 (x % 8))).cell? ⟨w.heap.size, 1, none⟩ = some (.string s2) := hx3.1 1 (by simp)
  have d2 : (((w2.setCell ⟨w.heap.size, 0, none⟩ (.string s1)).setCell ⟨w.heap.size, 1, none⟩ (.string s2)).setCell ⟨w.heap.size, 2, none⟩ (.int .u32 (x % 8))).cell? ⟨w.heap.size, 2, none⟩ = some (.int .u32 (x % 8)) := hx3.1 2 (by simp)
  have hB3 : Below w.heap.size w (((w2.setCell ⟨w.heap.size, 0, none⟩ (.string s1)).setCell ⟨w.heap.size, 1, none⟩ (.string s2)).setCell ⟨w.heap.size, 2, none⟩ (.int .u32 (x % 8))) := ((hB2.setCell (Nat.le_refl _) _).setCell (Nat.le_refl _) _).setCell (Nat.le_refl _) _
  generalize World.setCell _ _ _ = w5 at d0 d1 d2 hB3 ⊢
  exact bodyPost_ret (v := .agg #[.string s1, .string s2, .int .u32 (x % 8)]) (by simp [results, Yba.results6, go_sem, d0, d1, d2]) rfl ⟨rfl, hB3⟩

/-- What is known of a slice of bytes that came in: it lies below block B. -/
def ArgAt (B : Nat) (w : World) (a : Option Addr) (len : Nat) (z : List Int) : Prop :=
  ∀ j, j < len → ∃ b off, a = some ⟨b, off, none⟩ ∧ b < B ∧ w.cell? ⟨b, off + j, none⟩ = some (.int .u8 (z.getD j 0))

theorem ArgAt.later {B : Nat} {w w' : World} {a : Option Addr} {len : Nat} {z : List Int} (h : ArgAt B w a len z) (hb : Below B w w') : ArgAt B w' a len z := by
  intro j hj
  obtain ⟨b, off, h1, h2, h3⟩ := h j hj
  exact ⟨b, off, h1, h2, (hb.cell (p := ⟨b, off + j, none⟩) h2).trans h3⟩
theorem ArgAt.take {B : Nat} {w : World} {a : Option Addr} {len n : Nat} {z : List Int} (h : ArgAt B w a len z) (hn : n ≤ len) : ArgAt B w a n z := fun j hj => h j (by omega)

/-- Some of the first n bytes names the cell e. -/
def inS (z : List Int) (n : Nat) (e : Int) : Bool := (List.range n).any fun j => z.getD j 0 % 8 == e % 8

theorem inS_true {z : List Int} {n k : Nat} {e : Int} (hk : k < n) (h : z.getD k 0 % 8 = e % 8) : inS z n e = true := by
  unfold inS
  rw [List.any_eq_true]
  exact ⟨k, by simpa using hk, by simpa using h⟩
theorem inS_false {z : List Int} {n : Nat} {e : Int} (h : ∀ j, j < n → z.getD j 0 % 8 ≠ e % 8) : inS z n e = false := by
  unfold inS
  rw [List.any_eq_false]
  intro j hj
  simpa using h j (by simpa using hj)

set_option maxRecDepth 100000 in
set_option maxHeartbeats 1000000 in
theorem in_any (B : Nat) (a : Option Addr) (len cap : Nat) (z : List Int) (e : Int) (w : World) (hz : ArgAt B w a len z) (hzb : ∀ j : Nat, 0 ≤ z[j]?.getD 0 ∧ z[j]?.getD 0 ≤ 255) (he : 0 ≤ e ∧ e ≤ 255) (hl : len ≤ 1024) :
    Calls Yba.prog 8 #[.slice a len cap, .int .u8 e] w fun e' w' => e' = .returned (.bool (inS z len e)) ∧ w' = w := by
  have HZ : Hid _ := hz
  clear hz
  go_enter Yba.func8, Yba.ntmps8
  go_wp2_with fail
  go_loopw [9] (fun i wr => ∃ k : Nat, k ≤ len ∧ i = .int .i64 k ∧ wr = w ∧ ∀ j, j < k → z.getD j 0 % 8 ≠ e % 8) (fun i _ => len - (intOf i).toNat)
  case atStart => exact ⟨0, by omega, rfl, rfl, fun j hj => by omega⟩
  case round =>
    obtain ⟨k, hk, rfl, hw, hno⟩ := hrel
    subst hw
    have HNO : Hid _ := hno
    clear hno
    by_cases hlt : k < len
    · obtain ⟨b, off, rfl, hbl, hc⟩ := HZ.out k hlt
      obtain ⟨q, hq⟩ : ∃ q, q = z.getD k 0 := ⟨_, rfl⟩
      have hq0 : 0 ≤ q := by rw [hq]; simpa using (hzb k).1
      have hq1 : q ≤ 255 := by rw [hq]; simpa using (hzb k).2
      have hc2 : wr.cell? ⟨b, off + k, none⟩ = some (.int .u8 q) := by rw [hq]; exact hc
      have HQ : Hid (q = z.getD k 0) := hq
      have hk0 : (0 : Int) ≤ (k : Int) := by omega
      have hk7 : (k : Int) < (len : Int) := by omega
      obtain ⟨he0, he1⟩ := he
      clear hc hq hzb
      by_cases hm : q % 8 = e % 8
      · have HT : Hid (inS z len e = true) := inS_true hlt (by rw [← HQ.out]; exact hm)
        go_wp2
        go_ret
        exact ⟨by rw [HT.out]; rfl, rfl⟩
      · have hmb : (q % 8 == e % 8) = false := by simpa using hm
        go_wp2
        go_roundw
        case rel => exact ⟨k + 1, by omega, by go_num, by first | rfl | trivial, fun j hj => by
          by_cases hjk : j = k
          · subst hjk; rw [← HQ.out]; exact hm
          · exact HNO.out j (by omega)⟩
        case measure => simp [intOf]; omega
    · obtain rfl : k = len := by omega
      have HT : Hid (inS z k e = false) := inS_false HNO.out
      go_wp2
      go_ret
      exact ⟨by rw [HT.out]; rfl, rfl⟩

set_option maxRecDepth 100000 in
set_option maxHeartbeats 1000000 in
/-- The closure that makes a cancelled cell. -/
theorem cancelled_any (Cb N : Nat) (x : Int) (cb : Int) (w : World) (c0 : w.cell? ⟨Cb, 0, none⟩ = some (.pointer (some ⟨N, 0, none⟩))) (c5 : w.cell? ⟨N, 5, none⟩ = some (.int .u16 cb)) (hC : Cb < w.heap.size) (hN : N < w.heap.size) :
    Calls Yba.prog 9 #[.agg #[.string s1, .string s2, .int .u32 x], .pointer (some ⟨Cb, 0, none⟩)] w fun e w' => e = .returned (.agg #[.string s1, .string s2, .int .u32 x, .int .u16 cb]) ∧ Below w.heap.size w w' := by
  go_enter Yba.func9, Yba.ntmps9
  go_wp2_with fail
  go_region
  go_wp2
  exact bodyPost_ret (v := .agg #[.string s1, .string s2, .int .u32 x, .int .u16 cb]) (by simp [results, Yba.results9, go_sem]) rfl ⟨rfl, (((Below.refl _ _).alloc (Nat.le_refl _) _).alloc (by simp) _).drew⟩
end Go.Proofs.Ybulkbpkc
