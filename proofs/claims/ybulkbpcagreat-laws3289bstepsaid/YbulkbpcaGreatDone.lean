import Derived.Test.YbulkbpcaGreatRungs
import Derived.Deep.RegionWith
import Derived.Deep.RegionHeld3
namespace Go.Proofs.YbulkbpcaGreat
open Go.ChangeShapes Go.WideShapes Go.ChangeAt Go.RowKit
set_option linter.unusedVariables false

set_option maxRecDepth 100000 in
set_option maxHeartbeats 1000000 in
/-- A node that has left and is done leaving: 'Leaving' is false. -/
theorem leaving_no (N : Nat) (w : World) (c3 : w.cell? ⟨N, 3, none⟩ = some (.bool true)) (c61 : w.cell? ⟨N, 61, none⟩ = some (.bool true)) (c62 : w.cell? ⟨N, 62, none⟩ = some (.bool true)) (c17 : w.cell? ⟨N, 17, none⟩ = some (.map none)) :
    Calls Ybaz.prog 23 #[.pointer (some ⟨N, 0, none⟩)] w fun e w' => e = .returned (.bool false) ∧ w' = w := by
  go_enter Ybaz.func23, Ybaz.ntmps23
  go_wp2
  go_ret
  exact ⟨rfl, rfl⟩

set_option maxRecDepth 100000 in
set_option maxHeartbeats 1000000 in
theorem tickLeft_done (N : Nat) (w : World) (hN : N < w.heap.size) (c3 : w.cell? ⟨N, 3, none⟩ = some (.bool true)) (c61 : w.cell? ⟨N, 61, none⟩ = some (.bool true)) (c62 : w.cell? ⟨N, 62, none⟩ = some (.bool true)) (c17 : w.cell? ⟨N, 17, none⟩ = some (.map none)) :
    Calls Ybaz.prog 11 #[.pointer (some ⟨N, 0, none⟩)] w fun e w' => e = .returned (.tuple #[]) ∧ w' = w.alloc (.cells #[.pointer (some ⟨N, 0, none⟩)] 31) := by
  have d3 := (World.cell?_alloc_past (.cells #[.pointer (some ⟨N, 0, none⟩)] 31) N 3 hN).trans c3
  have d61 := (World.cell?_alloc_past (.cells #[.pointer (some ⟨N, 0, none⟩)] 31) N 61 hN).trans c61
  have d62 := (World.cell?_alloc_past (.cells #[.pointer (some ⟨N, 0, none⟩)] 31) N 62 hN).trans c62
  have d17 := (World.cell?_alloc_past (.cells #[.pointer (some ⟨N, 0, none⟩)] 31) N 17 hN).trans c17
  go_enter Ybaz.func11, Ybaz.ntmps11
  go_wp2_with fail
  refine (leaving_no N _ d3 d61 d62 d17).mono ?_
  rintro e w' ⟨rfl, rfl⟩
  go_wp2
  exact bodyPost_ret (v := .tuple #[]) (by simp [results, Ybaz.results11, go_sem]) rfl ⟨rfl, rfl⟩

set_option maxRecDepth 100000 in
set_option maxHeartbeats 1000000 in
theorem tick_done (N : Nat) (w : World) (hN : N < w.heap.size) (c3 : w.cell? ⟨N, 3, none⟩ = some (.bool true)) (c61 : w.cell? ⟨N, 61, none⟩ = some (.bool true)) (c62 : w.cell? ⟨N, 62, none⟩ = some (.bool true)) (c17 : w.cell? ⟨N, 17, none⟩ = some (.map none)) :
    Calls Ybaz.prog 10 #[.pointer (some ⟨N, 0, none⟩)] w fun e w' => e = .returned (.tuple #[]) ∧ w' = w.alloc (.cells #[.pointer (some ⟨N, 0, none⟩)] 31) := by
  go_enter Ybaz.func10, Ybaz.ntmps10
  go_wp2_with fail
  refine (tickLeft_done N _ hN c3 c61 c62 c17).mono ?_
  rintro e w' ⟨rfl, rfl⟩
  go_wp2
  exact bodyPost_ret (v := .tuple #[]) (by simp [results, Ybaz.results10, go_sem]) rfl ⟨rfl, rfl⟩

theorem newC_17 (k a : ByteArray) (H : Addr) (T : TypeId) (r : Int) (N : Nat) : newC k a H T r N 3 17 = .map none := by kernel_rfl

/-- What is known of a slice of bytes that came in: it lies below block B. -/
def ArgAt (B : Nat) (w : World) (a : Option Addr) (len : Nat) (z : List Int) : Prop :=
  ∀ j, j < len → ∃ b off, a = some ⟨b, off, none⟩ ∧ b < B ∧ w.cell? ⟨b, off + j, none⟩ = some (.int .u8 (z.getD j 0))

theorem ArgAt.later {B : Nat} {w w' : World} {a : Option Addr} {len : Nat} {z : List Int} (h : ArgAt B w a len z) (hb : Below B w w') : ArgAt B w' a len z := by
  intro j hj
  obtain ⟨b, off, h1, h2, h3⟩ := h j hj
  exact ⟨b, off, h1, h2, (hb.cell (p := ⟨b, off + j, none⟩) h2).trans h3⟩

theorem rungs_arg (B : Nat) (a0 : Option Addr) (len0 cap0 : Nat) (z0 : List Int) (w : World) (hz : ArgAt B w a0 len0 z0) (hB : B ≤ w.heap.size)
    (hzb : ∀ j : Nat, 0 ≤ z0[j]?.getD 0 ∧ z0[j]?.getD 0 ≤ 255) (hl : len0 ≤ 1024) :
    Calls Ybaz.prog 6 #[.slice a0 len0 cap0] w fun e w' => ∃ g, e = .returned (.slice (some ⟨g, 0, none⟩) (rn len0) (rn len0)) ∧ w.heap.size ≤ g ∧
      Blk w' g (rn len0 * 3) (rungC (rz len0 z0) (rn len0)) ∧ Below w.heap.size w w' :=
  rungs_any a0 len0 cap0 z0 w (fun j hj => by
    obtain ⟨b, off, h1, h2, h3⟩ := hz j hj
    exact ⟨b, off, h1, by omega, h3⟩) hzb hl

/-- What stands of the node and the host while the law lays its start: the node's block N and the host's block H. -/
def Laid (w : World) (B N : Nat) (c : Nat → Value) (wr : World) : Prop :=
  Blk wr N 258 c ∧ Blk wr B 3 (fun _ => .slice none 0 0) ∧ Below B w wr ∧ B < N ∧ N < wr.heap.size

theorem Laid.set {w wr : World} {B N : Nat} {c : Nat → Value} (h : Laid w B N c wr) (i : Nat) (hi : i < 258) (v : Value) : Laid w B N (upd c i v) (wr.setCell ⟨N, i, none⟩ v) :=
  ⟨h.1.set i hi v, h.2.1.setOther _ (by simp; have := h.2.2.2.1; omega) _, h.2.2.1.setCell (by simp; have := h.2.2.2.1; omega) _, h.2.2.2.1, by simpa using h.2.2.2.2⟩

theorem Laid.later {w wr w' : World} {B N : Nat} {c : Nat → Value} (h : Laid w B N c wr) (hb : Below wr.heap.size wr w') : Laid w B N c w' :=
  ⟨h.1.below hb h.2.2.2.2, h.2.1.below hb (by have := h.2.2.2.1; have := h.2.2.2.2; omega), h.2.2.1.trans (hb.mono (by have := h.2.2.2.1; have := h.2.2.2.2; omega)), h.2.2.2.1, Nat.lt_of_lt_of_le h.2.2.2.2 hb.size⟩

theorem Laid.drew {w wr : World} {B N : Nat} {c : Nat → Value} (h : Laid w B N c wr) : Laid w B N c wr.drew := ⟨h.1, h.2.1, h.2.2.1.drew, h.2.2.2.1, h.2.2.2.2⟩

set_option maxRecDepth 100000 in
set_option maxHeartbeats 1000000 in
theorem done_walk (t : Int) (a1 a2 : Option Addr) (len1 cap1 len2 cap2 : Nat) (z1 z2 : List Int) (w : World)
    (hz1 : ArgAt w.heap.size w a1 len1 z1) (hb1 : ∀ j : Nat, 0 ≤ z1[j]?.getD 0 ∧ z1[j]?.getD 0 ≤ 255) (hl1 : len1 ≤ 1024)
    (hz2 : ArgAt w.heap.size w a2 len2 z2) (hb2 : ∀ j : Nat, 0 ≤ z2[j]?.getD 0 ∧ z2[j]?.getD 0 ≤ 255) (hl2 : len2 ≤ 1024) :
    Calls Ybaz.prog 4 #[.int .i64 t, .slice a1 len1 cap1, .slice a2 len2 cap2] w fun e w' => e = .returned (.bool true) ∧ Below w.heap.size w w' := by
  have hd1 : decide ((1024 : Int) < (len1 : Int)) = false := decide_eq_false (by omega)
  have hd2 : decide ((1024 : Int) < (len2 : Int)) = false := decide_eq_false (by omega)
  go_enter Ybaz.func4, Ybaz.ntmps4
  go_wp2_with fail
  refine (new_at _ _ ⟨w.heap.size, 0, none⟩ 24 1 _).mono ?_
  rintro e w1 ⟨N, rfl, hN, hB1, hlt, hNw⟩
  have hL : Laid w w.heap.size N (newC ⟨#[115, 101, 108, 102]⟩ ⟨#[64, 115, 101, 108, 102]⟩ ⟨w.heap.size, 0, none⟩ 24 1 N 3) w1 := by
    simp only [World.size_alloc] at hB1 hlt
    refine ⟨hN, ?_, ((Below.refl _ _).alloc (Nat.le_refl _) _).trans (hB1.mono (by omega)), by omega, hNw⟩
    refine ((Blk.fresh w #[.slice none 0 0, .slice none 0 0, .slice none 0 0] 28).below hB1 (by omega)).congr fun j hj => ?_
    have hj3 : j < 3 := by simpa using hj
    rcases (show j = 0 ∨ j = 1 ∨ j = 2 from by omega) with rfl | rfl | rfl <;> rfl
  clear hN hB1 hlt hNw
  go_wp2_with fail
  go_region_with (go_at_call 6; refine (rungs_arg w.heap.size a1 len1 cap1 z1 _ (hz1.later hL.2.2.1.drew) hL.2.2.1.size hb1 hl1).mono ?_; rintro e w2 ⟨g, rfl, hg, hrg, hbel⟩; have hL2 := hL.drew.later hbel; have c21 := hL2.1.1 21 (by omega); have f21 := hL2.1.2 21)
  have hL3 := hL2.set 21 (by omega) (.slice (some ⟨g, 0, none⟩) (rn len1) (rn len1))
  clear c21 f21 hL2 hrg hbel hg hL
  go_wp2_with fail
  generalize w2.setCell ⟨N, 21, none⟩ (.slice (some ⟨g, 0, none⟩) (rn len1) (rn len1)) = w3 at hL3 ⊢
  go_region_with (go_at_call 6; refine (rungs_arg w.heap.size a2 len2 cap2 z2 _ (hz2.later hL3.2.2.1.drew) hL3.2.2.1.size hb2 hl2).mono ?_; rintro e w4 ⟨g', rfl, hg, hrg, hbel⟩; have hL4 := hL3.drew.later hbel; have c32 := hL4.1.1 32 (by omega); have f32 := hL4.1.2 32)
  have hL5 := hL4.set 32 (by omega) (.slice (some ⟨g', 0, none⟩) (rn len2) (rn len2))
  clear c32 f32 hL4 hrg hbel hg hL3
  have c3 := hL5.1.1 3 (by omega)
  have f3 := hL5.1.2 3
  have c61 := hL5.1.1 61 (by omega)
  have f61 := hL5.1.2 61
  have c62 := hL5.1.1 62 (by omega)
  have f62 := hL5.1.2 62
  have c14 := hL5.1.1 14 (by omega)
  have f14 := hL5.1.2 14
  generalize w4.setCell ⟨N, 32, none⟩ (.slice (some ⟨g', 0, none⟩) (rn len2) (rn len2)) = w5 at hL5 c3 f3 c61 f61 c62 f62 c14 f14 ⊢
  have hL6 := (((hL5.set 3 (by omega) (.bool true)).set 61 (by omega) (.bool true)).set 62 (by omega) (.bool true)).set 14 (by omega) (.int .i64 t)
  go_wp2_with fail
  generalize (((w5.setCell ⟨N, 3, none⟩ (.bool true)).setCell ⟨N, 61, none⟩ (.bool true)).setCell ⟨N, 62, none⟩ (.bool true)).setCell ⟨N, 14, none⟩ (.int .i64 t) = w6 at hL6 ⊢
  clear c3 f3 c61 f61 c62 f62 c14 f14 hL5
  have hNw := hL6.2.2.2.2
  refine (tick_done N w6 hNw (hL6.1.1 3 (by omega)) (hL6.1.1 61 (by omega)) (hL6.1.1 62 (by omega)) ((hL6.1.1 17 (by omega)).trans (by simp [upd, newC_17]))).mono ?_
  rintro e w7 ⟨rfl, rfl⟩
  have hBel := hL6.2.2.1.alloc hL6.2.2.1.size (.cells #[.pointer (some ⟨N, 0, none⟩)] 31)
  have d14 : (w6.alloc (.cells #[.pointer (some ⟨N, 0, none⟩)] 31)).cell? ⟨N, 14, none⟩ = some (.int .i64 t) := (hL6.1.alloc hNw _).1 14 (by omega)
  have d2 : (w6.alloc (.cells #[.pointer (some ⟨N, 0, none⟩)] 31)).cell? ⟨w.heap.size, 2, none⟩ = some (.slice none 0 0) := (hL6.2.1.alloc (by have := hL6.2.2.2.1; omega) _).1 2 (by omega)
  generalize w6.alloc (.cells #[.pointer (some ⟨N, 0, none⟩)] 31) = w8 at d14 d2 hBel ⊢
  clear hL6
  go_wp2
  go_ret
  exact ⟨rfl, hBel⟩
end Go.Proofs.YbulkbpcaGreat
