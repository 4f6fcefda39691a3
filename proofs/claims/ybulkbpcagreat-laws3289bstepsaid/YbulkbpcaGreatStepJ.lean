import Derived.Test.YbulkbpcaGreatStepI
namespace Go.Proofs.YbulkbpcaGreat
open Go.ChangeShapes Go.WideShapes Go.ChangeAt Go.RowKit
set_option linter.unusedVariables false

theorem rg_of {w : World} {g n : Nat} {z : Nat → Int} (h : Blk w g (n * 3) (rungC z n)) : Rgs w g n (fun j => pk (z j)) (fun j => pa (z j)) := fun j hj => by
  refine ⟨(h.1 (j * 3) (by omega)).trans ?_, (h.1 (j * 3 + 1) (by omega)).trans ?_⟩
  · unfold rungC; rw [if_pos (by omega), if_pos (by omega)]; congr 3; congr 1; omega
  · unfold rungC; rw [if_pos (by omega), if_neg (by omega), if_pos (by omega)]; congr 3; congr 1; omega

/-- The node, the host, and the law's own peer. -/
structure H0 (w : World) (H S N : Nat) (uk ua : ByteArray) (c : Nat → Value) (wr : World) : Prop where
  n : Blk wr N 258 c
  h : Blk wr H 3 (fun _ => .slice none 0 0)
  s : Blk wr S 2 (peerC uk ua)
  low : Below w.heap.size w wr
  ord : w.heap.size ≤ H ∧ H < S ∧ S < N ∧ N < wr.heap.size

theorem H0.later {w : World} {H S N : Nat} {uk ua : ByteArray} {c : Nat → Value} {wr w' : World} (l : H0 w H S N uk ua c wr) (hb : Below wr.heap.size wr w') : H0 w H S N uk ua c w' := by
  obtain ⟨o1, o2, o3, o4⟩ := l.ord
  exact ⟨l.n.below hb (by omega), l.h.below hb (by omega), l.s.below hb (by omega), l.low.trans (hb.mono (by omega)), ⟨o1, o2, o3, Nat.lt_of_lt_of_le o4 hb.size⟩⟩

theorem new_pre (k a : ByteArray) (H : Nat) (N : Nat) : TickPre (newC k a ⟨H, 0, none⟩ 24 1 N 3) H k a 0 :=
  ⟨by kernel_rfl, by kernel_rfl, by kernel_rfl, by kernel_rfl, by kernel_rfl, by kernel_rfl, by kernel_rfl, by kernel_rfl, by kernel_rfl, by kernel_rfl, by kernel_rfl, by kernel_rfl, by kernel_rfl, by kernel_rfl, by kernel_rfl⟩

theorem mod_nat {x : Int} {n : Nat} (h : 0 ≤ x) (hn : 0 < n) : ∃ k : Nat, x % (n : Int) = k ∧ k < n := by
  have h1 := Int.emod_nonneg x (b := (n : Int)) (by omega)
  have h2 := Int.emod_lt_of_pos x (b := (n : Int)) (by omega)
  exact ⟨(x % n).toNat, by omega, by omega⟩

set_option maxRecDepth 1000000 in
set_option maxHeartbeats 4000000 in
/-- The law's walk. -/
theorem step_walk (a0 : Option Addr) (len0 cap0 : Nat) (z0 : List Int) (a1 : Option Addr) (len1 cap1 : Nat) (z1 : List Int) (a2 : Option Addr) (len2 cap2 : Nat) (z2 : List Int) (a3 a4 a5 a6 a7 a8 a9 a10 : Int) (w : World) (hz0 : ArgAt w.heap.size w a0 len0 z0) (hzb0 : ∀ j : Nat, 0 ≤ z0[j]?.getD 0 ∧ z0[j]?.getD 0 ≤ 255) (hl0 : len0 ≤ 1024) (hz1 : ArgAt w.heap.size w a1 len1 z1) (hzb1 : ∀ j : Nat, 0 ≤ z1[j]?.getD 0 ∧ z1[j]?.getD 0 ≤ 255) (hl1 : len1 ≤ 1024) (hz2 : ArgAt w.heap.size w a2 len2 z2) (hzb2 : ∀ j : Nat, 0 ≤ z2[j]?.getD 0 ∧ z2[j]?.getD 0 ≤ 255) (hl2 : len2 ≤ 1024) (hb3 : 0 ≤ a3 ∧ a3 ≤ 255) (hb4 : 0 ≤ a4 ∧ a4 ≤ 255) (hb5 : 0 ≤ a5 ∧ a5 ≤ 255) (hb6 : 0 ≤ a6 ∧ a6 ≤ 255) (hb7 : 0 ≤ a7 ∧ a7 ≤ 255) (hb8 : 0 ≤ a8 ∧ a8 ≤ 255) :
    Calls Ybaz.prog 3 #[.slice a0 len0 cap0, .slice a1 len1 cap1, .slice a2 len2 cap2, .int .u8 a3, .int .u8 a4, .int .u8 a5, .int .u8 a6, .int .u8 a7, .int .u8 a8, .int .u64 a9, .int .u64 a10] w fun e w' => e = .returned (.bool true) ∧ Below w.heap.size w w' := by
  have hd0 : decide ((1024 : Int) < (len0 : Int)) = false := decide_eq_false (by omega)
  have hd1 : decide ((1024 : Int) < (len1 : Int)) = false := decide_eq_false (by omega)
  have hd2 : decide ((1024 : Int) < (len2 : Int)) = false := decide_eq_false (by omega)
  go_enter Ybaz.func3, Ybaz.ntmps3
  go_wp2_with fail
  refine (new_at _ _ ⟨w.heap.size, 0, none⟩ 24 1 _).mono ?_
  rintro e w1 ⟨N, rfl, hN, hB1, hlt, hNw⟩
  have h1 : H0 w w.heap.size (w.heap.size + 1) N ⟨#[115, 101, 108, 102]⟩ ⟨#[64, 115, 101, 108, 102]⟩ (newC ⟨#[115, 101, 108, 102]⟩ ⟨#[64, 115, 101, 108, 102]⟩ ⟨w.heap.size, 0, none⟩ 24 1 N 3) w1 := by
    have hx := (peer_fresh (w.alloc (.cells #[.slice none 0 0, .slice none 0 0, .slice none 0 0] 28)) ⟨#[115, 101, 108, 102]⟩ ⟨#[64, 115, 101, 108, 102]⟩ 30).below hB1 (by simp)
    rw [World.size_alloc] at hx
    have hh := ((Blk.fresh w #[.slice none 0 0, .slice none 0 0, .slice none 0 0] 28).alloc (by simp) (.cells #[.string ⟨#[115, 101, 108, 102]⟩, .string ⟨#[64, 115, 101, 108, 102]⟩] 30)).below hB1 (by simp; omega)
    simp only [World.size_alloc] at hB1 hlt
    refine ⟨hN, hh.congr fun j hj => ?_, hx, (((Below.refl _ w).alloc (Nat.le_refl _) _).alloc (by simp) _).trans (hB1.mono (by omega)), ⟨Nat.le_refl _, by omega, by omega, hNw⟩⟩
    have hj3 : j < 3 := by simpa using hj
    rcases (show j = 0 ∨ j = 1 ∨ j = 2 from by omega) with rfl | rfl | rfl <;> rfl
  clear hN hB1 hlt hNw
  have hpre := new_pre ⟨#[115, 101, 108, 102]⟩ ⟨#[64, 115, 101, 108, 102]⟩ w.heap.size N
  have HPRE : Hid _ := hpre
  clear hpre
  generalize newC _ _ _ _ _ _ _ = cN at h1 HPRE
  generalize (⟨#[115, 101, 108, 102]⟩ : ByteArray) = uk at h1 HPRE ⊢
  generalize (⟨#[64, 115, 101, 108, 102]⟩ : ByteArray) = ua at h1 HPRE ⊢
  go_wp2_with fail
  refine (rungs_arg w.heap.size a0 len0 cap0 z0 w1 (hz0.later h1.low) h1.low.size hzb0 hl0).mono ?_
  rintro e w2 ⟨g0, rfl, hg0, hr0, hbel⟩
  have h2 := h1.later hbel
  have hg0' : N < g0 := by have := h1.ord; omega
  have hR0 := rg_of hr0
  have hg0l : g0 < w2.heap.size := hr0.lt (by unfold rn; split <;> omega)
  clear h1 hbel hr0 hg0
  go_wp2_with fail
  refine (rungs_arg w.heap.size a1 len1 cap1 z1 w2 (hz1.later h2.low) h2.low.size hzb1 hl1).mono ?_
  rintro e w3 ⟨g1, rfl, hg1, hr1, hbel⟩
  have h3 := h2.later hbel
  have hg1' : g0 < g1 := by omega
  have hR1 := rg_of hr1
  have hR0' := hR0.block (hbel.block g0 hg0l)
  have hg1l : g1 < w3.heap.size := hr1.lt (by unfold rn; split <;> omega)
  have hn0 : 0 < rn len0 ∧ rn len0 ≤ 1024 := by unfold rn; split <;> omega
  have hn1 : 0 < rn len1 ∧ rn len1 ≤ 1024 := by unfold rn; split <;> omega
  clear h2 hbel hr1 hg1 hR0 hg0l
  generalize rn len0 = n0 at hn0 hR0' ⊢
  generalize rn len1 = n1 at hn1 hR1 ⊢
  obtain ⟨hn00, hn01⟩ := hn0
  obtain ⟨hn10, hn11⟩ := hn1
  have m0 : (n0 : Int) ≠ 0 := by omega
  have m1 : (n1 : Int) ≠ 0 := by omega
  obtain ⟨k0, hk0, hk0l⟩ := mod_nat hb3.1 hn00
  obtain ⟨k1, hk1, hk1l⟩ := mod_nat hb4.1 hn10
  go_wp2_with fail
  go_region
  have hB4 : Below w3.heap.size w3 ((w3.alloc (.cells #[.slice (some ⟨g0, 0, none⟩) n0 n0, .slice (some ⟨g1, 0, none⟩) n1 n1] 35)).alloc (.cells #[.int .i64 k0, .int .i64 k1] 36)).drew := (((Below.refl _ w3).alloc (Nat.le_refl _) _).alloc (by simp) _).drew
  have hE4 := ((Blk.fresh w3 #[.slice (some ⟨g0, 0, none⟩) n0 n0, .slice (some ⟨g1, 0, none⟩) n1 n1] 35).alloc (by simp) (.cells #[.int .i64 k0, .int .i64 k1] 36)).drew
  have hW4 := (Blk.fresh (w3.alloc (.cells #[.slice (some ⟨g0, 0, none⟩) n0 n0, .slice (some ⟨g1, 0, none⟩) n1 n1] 35)) #[.int .i64 k0, .int .i64 k1] 36).drew
  rw [World.size_alloc] at hW4
  have hs4 : ((w3.alloc (.cells #[.slice (some ⟨g0, 0, none⟩) n0 n0, .slice (some ⟨g1, 0, none⟩) n1 n1] 35)).alloc (.cells #[.int .i64 k0, .int .i64 k1] 36)).drew.heap.size = w3.heap.size + 1 + 1 := by simp
  have h4 := h3.later hB4
  have hR04 := hR0'.block (hB4.block g0 (by omega))
  have hR14 := hR1.block (hB4.block g1 hg1l)
  obtain ⟨E, hE⟩ : ∃ E, E = w3.heap.size := ⟨_, rfl⟩
  rw [← hE] at hE4 hW4 hs4 hg1l
  rw [← hE]
  generalize World.drew _ = w4 at h4 hE4 hW4 hs4 hR04 hR14 ⊢
  clear h3 hR0' hR1 hB4 hE
  clear hk0 hk1
  go_upto_region 10 with fail
  have hB5 : Below w4.heap.size w4 ((w4.alloc (.cells #[.int .u64 a9, .int .u64 a10] 37)).alloc (.cells #[.int .i64 (a5 % 3), .int .i64 (a6 % 3)] 36)) := ((Below.refl _ w4).alloc (Nat.le_refl _) _).alloc (by simp) _
  have hT5 := (Blk.fresh w4 #[.int .u64 a9, .int .u64 a10] 37).alloc (by simp) (.cells #[.int .i64 (a5 % 3), .int .i64 (a6 % 3)] 36)
  have hU5 := Blk.fresh (w4.alloc (.cells #[.int .u64 a9, .int .u64 a10] 37)) #[.int .i64 (a5 % 3), .int .i64 (a6 % 3)] 36
  have hs5 : ((w4.alloc (.cells #[.int .u64 a9, .int .u64 a10] 37)).alloc (.cells #[.int .i64 (a5 % 3), .int .i64 (a6 % 3)] 36)).heap.size = E + 1 + 1 + 1 + 1 := by simp [hs4]
  rw [World.size_alloc, hs4] at hU5
  rw [hs4] at hT5
  have h5 := h4.later hB5
  have hR05 := hR04.block (hB5.block g0 (by omega))
  have hR15 := hR14.block (hB5.block g1 (by omega))
  have hE5 := hE4.below hB5 (by omega)
  have hW5 := hW4.below hB5 (by omega)
  generalize World.alloc (World.alloc w4 _) _ = w5 at h5 hT5 hU5 hs5 hR05 hR15 hE5 hW5 ⊢
  clear h4 hR04 hR14 hE4 hW4 hB5 hs4
  have u5 : 0 ≤ a5 % 3 ∧ a5 % 3 < 3 := by omega
  have u6 : 0 ≤ a6 % 3 ∧ a6 % 3 < 3 := by omega
  generalize a5 % 3 = v5 at hU5 u5 ⊢
  generalize a6 % 3 = v6 at hU5 u6 ⊢
  obtain ⟨f, hf⟩ : ∃ f : Tb, f = ⟨g0, n0, k0, fun j => pk (rz len0 z0 j), fun j => pa (rz len0 z0 j), pk a7, pa a7, v5, a9⟩ := ⟨_, rfl⟩
  obtain ⟨b, hb⟩ : ∃ b : Tb, b = ⟨g1, n1, k1, fun j => pk (rz len1 z1 j), fun j => pa (rz len1 z1 j), pk a8, pa a8, v6, a10⟩ := ⟨_, rfl⟩
  have HTB : Hid (f = _ ∧ b = _) := ⟨hf, hb⟩
  clear hf hb
  have hord := h5.ord
  go_cut [30] from 103 to 107 (fun v wx => ∃ A, v = .pointer (some ⟨A, 0, none⟩) ∧ HX w w.heap.size (w.heap.size + 1) N E (E + 1) (E + 1 + 1) (E + 1 + 1 + 1) A uk ua f b cN wx)
  case first =>
    go_wp2_with fail
    refine (peer_any a7 hb7.1 hb7.2 w5).mono ?_
    rintro e w6 ⟨rfl, hB6⟩
    go_wp2_with fail
    refine (peer_any a8 hb8.1 hb8.2 w6).mono ?_
    rintro e w7 ⟨rfl, hB7⟩
    have hB8 : Below w5.heap.size w5 (w7.alloc (.cells #[.string (pk a7), .string (pa a7), .string (pk a8), .string (pa a8)] 39)) := (hB6.trans (hB7.mono hB6.size)).alloc (Nat.le_trans hB6.size hB7.size) _
    have HR : Hid (HX w w.heap.size (w.heap.size + 1) N E (E + 1) (E + 1 + 1) (E + 1 + 1 + 1) w7.heap.size uk ua f b cN (w7.alloc (.cells #[.string (pk a7), .string (pa a7), .string (pk a8), .string (pa a8)] 39))) := by
      have h8 := h5.later hB8
      have hA := Blk.fresh w7 #[.string (pk a7), .string (pa a7), .string (pk a8), .string (pa a8)] 39
      have hle := Nat.le_trans hB6.size hB7.size
      rw [HTB.out.1, HTB.out.2]
      refine ⟨h8.n, h8.h, h8.s, (hE5.below hB8 (by omega)).congr fun j hj => ?_, (hW5.below hB8 (by omega)).congr fun j hj => ?_, (hT5.below hB8 (by omega)).congr fun j hj => ?_, (hU5.below hB8 (by omega)).congr fun j hj => ?_, hA.congr fun j hj => ?_, hR05.block (hB8.block g0 (by omega)), hR15.block (hB8.block g1 (by omega)), h8.low, ⟨by omega, by omega, by omega, hg0', hg1', hg1l, by omega, by omega, by omega, by omega, by simp⟩⟩
      · have hj2 : j < 2 := by simpa using hj
        rcases (show j = 0 ∨ j = 1 from by omega) with rfl | rfl <;> rfl
      · have hj2 : j < 2 := by simpa using hj
        rcases (show j = 0 ∨ j = 1 from by omega) with rfl | rfl <;> rfl
      · have hj2 : j < 2 := by simpa using hj
        rcases (show j = 0 ∨ j = 1 from by omega) with rfl | rfl <;> rfl
      · have hj2 : j < 2 := by simpa using hj
        rcases (show j = 0 ∨ j = 1 from by omega) with rfl | rfl <;> rfl
      · have hj2 : j < 4 := by simpa using hj
        rcases (show j = 0 ∨ j = 1 ∨ j = 2 ∨ j = 3 from by omega) with rfl | rfl | rfl | rfl <;> rfl
    clear h5 hE5 hW5 hT5 hU5 hR05 hR15 hB6 hB7 hB8
    go_wp2_with fail
    go_meet
    case rel => exact ⟨_, rfl, HR.out⟩
  case rest =>
    obtain ⟨A, rfl, hX⟩ := hcut
    have HXX : Hid _ := hX
    clear hX h5 hE5 hW5 hT5 hU5 hR05 hR15
    rename_i hK
    exact hK _ _ (step_mid w a2 len2 cap2 z2 w.heap.size (w.heap.size + 1) N E (E + 1) (E + 1 + 1) (E + 1 + 1 + 1) A uk ua f b cN wc hz2 hzb2 hl2 HXX.out HPRE.out (by rw [HTB.out.1]; exact hk0l) (by rw [HTB.out.2]; exact hk1l) (by rw [HTB.out.1]; exact hn01) (by rw [HTB.out.2]; exact hn11) (by rw [HTB.out.1]; exact u5) (by rw [HTB.out.2]; exact u6) _ _ _ _ _ _ _ _ _ _ _ _ _ _ _ _ _ _ _ _ _ _ _ _ _ _ _ _ _ _ _ _ _ _ _ _ _ _ _ _ _ _ _ _ _ _ _ _ _ _ _ _ _ _ _ _ _ _ _ _ _ _ _ _ _ _ _ _ _ _ _ _ _ _)

end Go.Proofs.YbulkbpcaGreat
