import Derived.Test.YbulkbpcaLawA
namespace Go.Proofs.Ybulkbpca
open Go.ChangeShapes Go.WideShapes Go.ChangeAt Go.RowKit
set_option linter.unusedVariables false
attribute [local go_sem ↓] Go.wp_at_zero Go.wp_at_succ
attribute [local go_sem ↓] eq_peer
attribute [local go_sem] guard_peer field_key msg_cells rowL_drew rowL_drewN rowL_alloc rowL_setCell load_msg store_msg
attribute [local go_sem ↓] load_msg0 store_msg0

theorem kept_prefix {vs : Nat → Int} {id : Int} {k n : Nat} (h : k ≤ n) : ∃ r, kept vs id n = kept vs id k ++ r := by
  induction n with
  | zero => obtain rfl : k = 0 := by omega
            exact ⟨[], by simp⟩
  | succ n ih =>
    by_cases e : k = n + 1
    · subst e; exact ⟨[], by simp⟩
    · obtain ⟨r, hr⟩ := ih (by omega)
      by_cases hv : vs n = id
      · exact ⟨r, by rw [kept_hit hv]; exact hr⟩
      · exact ⟨r ++ [n], by rw [kept_miss hv, hr, List.append_assoc]⟩

theorem kept_at {vs : Nat → Int} {id : Int} {k n : Nat} (h : k < n) (hv : vs k ≠ id) : (kept vs id n)[(kept vs id k).length]? = some k := by
  obtain ⟨r, hr⟩ := kept_prefix (vs := vs) (id := id) (k := k + 1) (n := n) h
  rw [hr, kept_miss hv, List.append_assoc, List.getElem?_append_right (Nat.le_refl _)]
  simp

set_option maxRecDepth 1000000 in
set_option maxHeartbeats 4000000 in
/-- Behind 'merge', the node itself named: what is left of the contacts is as the law says. -/
theorem tail_self (a0 a1 a2 a3 a4 a5 : ByteArray) (a6 a7 a8 : Int) (a9 : Option Addr) (len9 cap9 : Nat) (z9 : List Int) (a10 : Int) (w : World) (hl : len9 ≤ 1024) (B H N : Nat) (HB : Hid (B = w.heap.size)) (HZ : Hid (ArgAt B w a9 len9 z9)) (r : Int) (xk xa : ByteArray) (wc : World) (hE : EndSelf w B H N a0 a1 a2 a3 xk xa a7 len9 z9 wc) (j29 j30 j31 j32 j41 j42 j43 j44 j45 j46 j47 j48 j49 j50 j51 j52 j53 j54 j55 j56 j57 j58 j59 j60 j61 j62 j63 j64 j65 j66 j67 j68 j69 j70 j71 j72 j73 j74 j75 j76 j77 j78 j79 j80 j81 j82 j83 j84 j85 j86 j87 j88 j89 j90 j91 j92 j93 j94 j95 j96 j97 j98 j99 j100 : Value) :
    Code.wp Yba.prog ((Yba.f3.body.bind (afterRegion 20)).getD .skip) (bodyPost Yba.prog Yba.f3 fun e w' => e = .returned (.bool true) ∧ Below w.heap.size w w')
      ⟨#[.string a0, .string a1, .string a2, .string a3, .string a4, .string a5, .int .u8 a6, .int .u64 a7, .int .i64 a8, .slice a9 len9 cap9, .int .u8 a10, undef, undef, undef, undef, undef, undef, undef, undef, undef, undef, undef, .bool false, .pointer (some ⟨B, 0, none⟩), .pointer (some ⟨B + 1, 0, none⟩), .pointer (some ⟨B + 1 + 1, 0, none⟩), .int .i64 r, .pointer (some ⟨H, 0, none⟩), .pointer (some ⟨N, 0, none⟩), j29, j30, j31, j32, undef, undef, undef, undef, undef, undef, undef, undef, j41, j42, j43, j44, j45, j46, j47, j48, j49, j50, j51, j52, j53, j54, j55, j56, j57, j58, j59, j60, j61, j62, j63, j64, j65, j66, j67, j68, j69, j70, j71, j72, j73, j74, j75, j76, j77, j78, j79, j80, j81, j82, j83, j84, j85, j86, j87, j88, j89, j90, j91, j92, j93, j94, j95, j96, j97, j98, j99, j100, undef, undef, undef, undef, undef, undef, undef, undef, undef, undef, undef, undef, undef, undef, undef, undef, undef, undef, undef, undef, undef, undef, undef, undef, undef, undef, undef, undef, undef, undef, undef, undef, undef, undef, undef, undef, undef, undef, undef, undef, undef, undef, undef, undef, undef, undef, undef, undef, undef, undef, undef, undef, undef, undef, undef, undef, undef, undef, undef, undef, undef, undef, undef, undef, undef, undef, undef, undef, undef, undef, undef, undef, undef, undef, undef, undef, undef, undef, undef, undef, undef, undef, undef, undef, undef, undef, undef, undef, undef, undef, undef, undef, undef, undef, undef, undef, undef, undef, undef, undef, undef, undef, undef, undef, undef, undef, undef, undef, undef, undef, undef, undef, undef, undef, undef, undef, undef, undef, undef, undef, undef, undef, undef, undef, undef, undef, undef, undef, undef, undef, undef, undef, undef, undef, undef, undef, undef, undef, undef, undef, undef, undef, undef, undef, undef, undef, undef, undef, undef, undef, undef, undef, undef, undef, undef, undef, undef, undef, undef, undef, undef, undef, undef, undef, undef, undef, undef, undef, undef, undef, undef, undef, undef, undef, undef, undef, undef, undef, undef, undef, undef, undef, undef, undef, undef, undef, undef, undef, undef, undef, undef, undef, undef, undef, undef, undef, undef, undef, undef, undef, undef, undef, undef, undef, undef, undef, undef, undef, undef, undef, undef, undef, undef, undef, undef, undef, undef, undef, undef, undef, undef, undef, undef, undef, undef, undef, undef, undef, undef, undef, undef, undef, undef, undef, undef, undef, undef, undef, undef, undef, undef, undef, undef, undef, undef, undef, undef, undef, undef, undef, undef, undef, undef, undef, undef, undef, undef, undef, undef, undef, undef, undef, undef, undef, undef, undef, undef, undef, undef, undef, undef, undef, undef, undef, undef, undef, undef, undef, undef, undef, undef, undef, undef, undef, undef, undef, undef, undef, undef, undef, undef, undef, undef, undef, undef, undef, undef, undef, undef, undef, undef, undef, undef, undef, undef, undef, undef, undef, undef, undef, undef, undef, undef], []⟩ wc := by
  obtain ⟨c, g, S, hpq, hP, hh, hn, c11, c12, c19, c21, c66, c67, hcon, hg, hHw, hNw⟩ := hE
  obtain ⟨sa, sn, sc, rfl⟩ : ∃ a n c, S = .slice a n c := by rcases hcon with ⟨_, rfl⟩ | ⟨cap, rfl, _⟩ <;> exact ⟨_, _, _, rfl⟩
  have HC : Hid _ := hcon
  have hsn : sn = (kept (fun i => z9.getD i 0) a7 len9).length := by
    rcases hcon with ⟨h1, h2⟩ | ⟨cap, h1, _⟩
    · injection h2 with _ h3; rw [h1]; exact h3
    · injection h1
  have hsl : sn ≤ 1024 := by rw [hsn]; exact Nat.le_trans (kept_len _ _ _) hl
  have HSN : Hid (sn = (kept (fun i => z9.getD i 0) a7 len9).length) := hsn
  clear hcon hsn
  have o2 : wc.cell? ⟨H, 2, none⟩ = some (.int .i64 0) := hh.1 2 (by omega)
  have o0 : wc.cell? ⟨H, 0, none⟩ = some (.slice none 0 0) := hh.1 0 (by omega)
  have x0 : wc.cell? ⟨B + 1 + 1, 0, none⟩ = some (.string xk) := hP.x.1 0 (by omega)
  have x1 : wc.cell? ⟨B + 1 + 1, 1, none⟩ = some (.string xa) := hP.x.1 1 (by omega)
  have y0 : wc.cell? ⟨B, 0, none⟩ = some (.string a0) := hP.s.1 0 (by omega)
  have y1 : wc.cell? ⟨B, 1, none⟩ = some (.string a1) := hP.s.1 1 (by omega)
  conv => arg 2; whnf
  go_wp2_with fail
  go_loopw [33, 117] (fun a i wr => ∃ k : Nat, k ≤ len9 ∧ i = .int .i64 k ∧ a = .int .i64 ((kept (fun i => z9.getD i 0) a7 k).length : Nat) ∧ Below wc.heap.size wc wr) (fun _ i _ => len9 - (intOf i).toNat)
  case atStart => exact ⟨0, by omega, rfl, rfl, Below.refl _ _⟩
  case round =>
    obtain ⟨k, hk, rfl, rfl, hB⟩ := hrel
    clear o2 o0 x0 x1 y0 y1
    obtain ⟨kk, hkk⟩ : ∃ kk, kk = (kept (fun i => z9.getD i 0) a7 k).length := ⟨_, rfl⟩
    have hkk7 : kk ≤ 1024 := by rw [hkk]; exact Nat.le_trans (kept_len _ _ _) (by omega)
    rw [← hkk]
    have HKK : Hid _ := hkk
    clear hkk
    by_cases hlt : k < len9
    · obtain ⟨b, off, rfl, hbl, hc⟩ := HZ.out k hlt
      obtain ⟨q, hq⟩ : ∃ q, q = z9.getD k 0 := ⟨_, rfl⟩
      have hBw : Below B w wr := hP.bel.trans (hB.mono (by have := hP.lt; omega))
      have hc2 : wr.cell? ⟨b, off + k, none⟩ = some (.int .u64 q) := by rw [hq]; exact (hBw.cell (by exact hbl)).trans hc
      have hk0 : (0 : Int) ≤ (k : Int) := by omega
      have hk7 : (k : Int) < (len9 : Int) := by omega
      by_cases hqi : q = a7
      · have HF : Hid (kk = (kept (fun i => z9.getD i 0) a7 (k + 1)).length) := by rw [kept_hit (by rw [← hq]; exact hqi)]; exact HKK.out
        subst hqi
        clear hc hq
        go_wp2
        go_roundw
        case rel => exact ⟨k + 1, by omega, by go_num, by rw [← HF.out], hB⟩
        case measure => simp [intOf]; omega
      · have hat := kept_at (vs := fun i => z9.getD i 0) (id := a7) hlt (by rw [← hq]; exact hqi)
        have HF : Hid (kk + 1 = (kept (fun i => z9.getD i 0) a7 (k + 1)).length) := by
          show kk + 1 = _
          rw [kept_miss (by rw [← hq]; exact hqi), HKK.out]; simp
        rcases HC.out with ⟨h1, _⟩ | ⟨cap, h1, h2⟩
        · rw [h1] at hat; simp at hat
        · injection h1 with e1 e2 e3
          subst e1
          rw [← HKK.out] at hat
          have hgw : g < wc.heap.size := by
            rcases hg with h | h
            · rw [h] at hat; simp at hat
            · exact h
          obtain ⟨d0, d1, d2, d3, d4⟩ := (h2 kk k hat).below hB hgw
          have hks : kk < sn := by rw [e2]; exact (List.getElem?_eq_some_iff.1 hat).1
          simp only [← hq] at d2
          have n19 : wr.cell? ⟨N, 19, none⟩ = some (.slice (some ⟨g, 0, none⟩) sn sc) := ((hn.below hB hNw).1 19 (by omega)).trans (by rw [c19])
          have hks7 : (kk : Int) < (sn : Int) := by omega
          have hks0 : (0 : Int) ≤ (kk : Int) := by omega
          have hpc := peq_self ⟨#[99]⟩ ⟨#[]⟩
          clear hc hq h2 hat e2 e3 hn hg HC
          go_wp2
          go_roundw
          case rel => exact ⟨k + 1, by omega, by go_num, by rw [← HF.out]; go_num, hB.alloc hB.size _⟩
          case measure => simp [intOf]; omega
    · obtain rfl : k = len9 := by omega
      obtain rfl : kk = sn := by rw [HKK.out, HSN.out]
      have hnr := hn.below hB hNw
      have n11 : wr.cell? ⟨N, 11, none⟩ = some (.pointer none) := (hnr.1 11 (by omega)).trans (by rw [c11])
      have n12 : wr.cell? ⟨N, 12, none⟩ = some (.int .u64 0) := (hnr.1 12 (by omega)).trans (by rw [c12])
      have n19 : wr.cell? ⟨N, 19, none⟩ = some (.slice sa kk sc) := (hnr.1 19 (by omega)).trans (by rw [c19])
      have n21 : wr.cell? ⟨N, 21, none⟩ = some (.slice (some ⟨N, 66, none⟩) 1 18) := (hnr.1 21 (by omega)).trans (by rw [c21])
      have n66 : wr.cell? ⟨N, 66, none⟩ = some (.string a2) := (hnr.1 66 (by omega)).trans (by rw [c66])
      have n67 : wr.cell? ⟨N, 67, none⟩ = some (.string a3) := (hnr.1 67 (by omega)).trans (by rw [c67])
      have hq2 := hP.q.below hB (by have := hP.lt; omega)
      have v0 : wr.cell? ⟨B + 1, 0, none⟩ = some (.string a2) := hq2.1 0 (by omega)
      have v1 : wr.cell? ⟨B + 1, 1, none⟩ = some (.string a3) := hq2.1 1 (by omega)
      have hps := peq_self a2 a3
      have HF : Hid (Below w.heap.size w wr) := by rw [← HB.out]; exact hP.bel.trans (hB.mono (by have := hP.lt; omega))
      have hbq : ((kk : Int) == (kk : Int)) = true := by simp
      clear hn hnr hq2 c11 c12 c19 c21 c66 c67 HC
      go_wp2_with fail
      go_quiet (fail)
      go_wp2
      go_ret
      exact ⟨rfl, ⟨HF.out.os, HF.out.tape, HF.out.output, HF.out.size, HF.out.block⟩⟩
end Go.Proofs.Ybulkbpca
