import Derived.Test.YbulkbpcaLawD
import Derived.Test.YbulkbpcaLawE
import Derived.Test.YbulkbpcaLawF
namespace Go.Proofs.Ybulkbpca
open Go.ChangeShapes Go.WideShapes Go.ChangeAt Go.RowKit
set_option linter.unusedVariables false
attribute [local go_sem ↓] Go.wp_at_zero Go.wp_at_succ
attribute [local go_sem ↓] eq_peer
attribute [local go_sem] guard_peer field_key msg_cells rowL_drew rowL_drewN rowL_alloc rowL_setCell load_msg store_msgL
attribute [local go_sem ↓] load_msg0 store_msg0

set_option maxRecDepth 1000000 in
set_option maxHeartbeats 4000000 in
theorem tail1 (a0 a1 a2 a3 a4 a5 : ByteArray) (a6 a7 a8 : Int) (a9 : Option Addr) (len9 cap9 : Nat) (z9 : List Int) (a10 : Int) (w : World) (hk4 : a4.size ≤ maxLen) (hk0 : a0.size ≤ maxLen) (hl : len9 ≤ 1024) (B H N : Nat) (HB : Hid (B = w.heap.size)) (HZ : Hid (ArgAt B w a9 len9 z9))
    (xk xa : ByteArray) (hx : XIs a0 a1 a4 a5 xk xa) (r : Int) (c : Nat → Value) (hok : NodeOk c N H r a0 a1 a2 a3) (wc : World) (hLc : Lw w B H N a0 a1 a2 a3 xk xa c wc) (j41 j42 j43 j44 j45 j46 j47 j48 j49 j50 j51 j52 j53 j54 j55 j56 j57 j58 j59 j60 j61 j62 j63 j64 j65 j66 j67 j68 j69 j70 j71 j72 j73 : Value) :
    Code.wp Yba.prog ((Yba.f3.body.bind (afterRegion 11)).getD .skip) (bodyPost Yba.prog Yba.f3 fun e w' => e = .returned (.bool true) ∧ Below w.heap.size w w')
      ⟨#[.string a0, .string a1, .string a2, .string a3, .string a4, .string a5, .int .u8 a6, .int .u64 a7, .int .i64 a8, .slice a9 len9 cap9, .int .u8 a10, undef, undef, undef, undef, undef, undef, undef, undef, undef, undef, undef, .bool false, .pointer (some ⟨B, 0, none⟩), .pointer (some ⟨B + 1, 0, none⟩), .pointer (some ⟨B + 1 + 1, 0, none⟩), .int .i64 r, .pointer (some ⟨H, 0, none⟩), .pointer (some ⟨N, 0, none⟩), undef, undef, undef, undef, undef, undef, undef, undef, undef, undef, undef, undef, j41, j42, j43, j44, j45, j46, j47, j48, j49, j50, j51, j52, j53, j54, j55, j56, j57, j58, j59, j60, j61, j62, j63, j64, j65, j66, j67, j68, j69, j70, j71, j72, j73, undef, undef, undef, undef, undef, undef, undef, undef, undef, undef, undef, undef, undef, undef, undef, undef, undef, undef, undef, undef, undef, undef, undef, undef, undef, undef, undef, undef, undef, undef, undef, undef, undef, undef, undef, undef, undef, undef, undef, undef, undef, undef, undef, undef, undef, undef, undef, undef, undef, undef, undef, undef, undef, undef, undef, undef, undef, undef, undef, undef, undef, undef, undef, undef, undef, undef, undef, undef, undef, undef, undef, undef, undef, undef, undef, undef, undef, undef, undef, undef, undef, undef, undef, undef, undef, undef, undef, undef, undef, undef, undef, undef, undef, undef, undef, undef, undef, undef, undef, undef, undef, undef, undef, undef, undef, undef, undef, undef, undef, undef, undef, undef, undef, undef, undef, undef, undef, undef, undef, undef, undef, undef, undef, undef, undef, undef, undef, undef, undef, undef, undef, undef, undef, undef, undef, undef, undef, undef, undef, undef, undef, undef, undef, undef, undef, undef, undef, undef, undef, undef, undef, undef, undef, undef, undef, undef, undef, undef, undef, undef, undef, undef, undef, undef, undef, undef, undef, undef, undef, undef, undef, undef, undef, undef, undef, undef, undef, undef, undef, undef, undef, undef, undef, undef, undef, undef, undef, undef, undef, undef, undef, undef, undef, undef, undef, undef, undef, undef, undef, undef, undef, undef, undef, undef, undef, undef, undef, undef, undef, undef, undef, undef, undef, undef, undef, undef, undef, undef, undef, undef, undef, undef, undef, undef, undef, undef, undef, undef, undef, undef, undef, undef, undef, undef, undef, undef, undef, undef, undef, undef, undef, undef, undef, undef, undef, undef, undef, undef, undef, undef, undef, undef, undef, undef, undef, undef, undef, undef, undef, undef, undef, undef, undef, undef, undef, undef, undef, undef, undef, undef, undef, undef, undef, undef, undef, undef, undef, undef, undef, undef, undef, undef, undef, undef, undef, undef, undef, undef, undef, undef, undef, undef, undef, undef, undef, undef, undef, undef, undef, undef, undef, undef, undef, undef, undef, undef, undef, undef, undef, undef, undef, undef, undef, undef, undef, undef, undef, undef, undef, undef, undef, undef, undef, undef, undef, undef, undef, undef, undef, undef, undef, undef, undef, undef, undef, undef, undef, undef, undef, undef], []⟩ wc := by
  conv => arg 2; whnf
  obtain ⟨i0, hi, hz0, hz1, hz2⟩ := info_parts Yba.infoCon
  obtain ⟨G, hG⟩ : ∃ G, G = wc.heap.size := ⟨_, rfl⟩
  have hNG : N < G := by rw [hG]; exact hLc.lt
  have hGw : G ≤ wc.heap.size := by rw [hG]; exact Nat.le_refl _
  clear hG
  go_wp2_with fail
  go_loopw [29, 76] (fun S i wr => ∃ k : Nat, k ≤ len9 ∧ i = .int .i64 k ∧ Lw w B H N a0 a1 a2 a3 xk xa c wr ∧ wr.ownsRow G 61 5 S k (conL z9 k) ∧ G ≤ wr.heap.size) (fun _ i _ => len9 - (intOf i).toNat)
  case atStart => exact ⟨0, by omega, rfl, hLc, World.ownsRow_nil _ _ _ _, hGw⟩
  case round =>
    obtain ⟨k, hk, rfl, hLr, hown, hGr⟩ := hrel
    clear hLc hGw
    by_cases hlt : k < len9
    · obtain ⟨b, off, rfl, hbl, hc⟩ := HZ.out k hlt
      obtain ⟨q, hq⟩ : ∃ q, q = z9.getD k 0 := ⟨_, rfl⟩
      have hc2 : wr.cell? ⟨b, off + k, none⟩ = some (.int .u64 q) := by rw [hq]; exact (hLr.bel.cell (by exact hbl)).trans hc
      have HQ : Hid (q = z9.getD k 0) := hq
      have hk0 : (0 : Int) ≤ (k : Int) := by omega
      have hk7 : (k : Int) < (len9 : Int) := by omega
      clear hc hq
      go_wp2_with (first
        | (at_builtin; refine wpList_append_own _ rfl _ _ 48 rfl G 61 i0 (.agg #[.string ⟨#[]⟩, .string ⟨#[]⟩, .int .u64 0, .int .i64 0, .int .i64 0]) 5 56 Yba.underlying48 hi hz0 hz1 hz2 rfl (by decide) _ _ _ rfl (hown.alloc _) ⟨wr.heap.size, 0, none⟩ 1 1 [.string ⟨#[99]⟩, .string ⟨#[]⟩, .int .u64 q, .int .i64 k, .int .i64 0] rfl rfl ?c1 ?c2 ?c3 ?c4 ?c5 ?_)
        | go_in)
      case c1 =>
        intro j u hj
        rcases j with _ | _ | _ | _ | _ | j <;> simp at hj <;> subst hj <;> simp [Addr.add]
      case c2 =>
        intro u hu
        simp at hu
        rcases hu with rfl | rfl | rfl | rfl | rfl <;> rfl
      case c3 => unfold maxLen; omega
      case c4 => omega
      case c5 => simp; omega
      intro v' w4 hown' hgrow _
      have hB4 : Below G wr w4 := ((Below.refl _ _).alloc hGr _).trans ((Below.refl _ _).grown hgrow (by simp; omega) (fun j hj => (hown.lt j hj).1))
      have HF : Hid (Lw w B H N a0 a1 a2 a3 xk xa c w4 ∧ w4.ownsRow G 61 5 v' (k + 1) (conL z9 (k + 1)) ∧ G ≤ w4.heap.size) := by
        refine ⟨hLr.later hB4 hNG, ?_, Nat.le_trans hGr hB4.size⟩
        rw [conL_succ, ← HQ.out]
        exact hown'
      clear hown' hgrow hown hLr hB4 hc2 hGr
      go_wp2
      go_roundw
      case rel => exact ⟨k + 1, by omega, by go_num, HF.out⟩
      case measure => simp [intOf]; omega
    · obtain rfl : k = len9 := by omega
      obtain ⟨g, hg1, hg2, hcon⟩ := con_row hown
      have hsl : ∃ a n c, u29 = .slice a n c := by rcases hcon with ⟨_, rfl⟩ | ⟨cap, rfl, _⟩ <;> exact ⟨_, _, _, rfl⟩
      have HS : Hid (G ≤ g ∧ (g = G ∨ g < wr.heap.size) ∧ ConRow wr u29 k (fun i => z9.getD i 0) (fun i => (i : Int)) g) := ⟨hg1, hg2, hcon⟩
      obtain ⟨sa, sn, sc, rfl⟩ := hsl
      have c19 := hLr.n.1 19 (by omega)
      have f19 := hLr.n.2 19
      have x0 : wr.cell? ⟨B + 1 + 1, 0, none⟩ = some (.string xk) := hLr.x.1 0 (by omega)
      have x1 : wr.cell? ⟨B + 1 + 1, 1, none⟩ = some (.string xa) := hLr.x.1 1 (by omega)
      have hNB : B + 1 + 1 ≠ N := by have := hLr.hH; have := hLr.hN; omega
      clear hcon hg1 hg2 hown
      have hL2 := hLr.set 19 (by omega) (.slice sa sn sc)
      have hm := msg_fresh (wr.setCell ⟨N, 19, none⟩ (.slice sa sn sc)) ⟨#[]⟩ ⟨#[]⟩ xk xa a7 a4 a8 65
      have hL3 := hL2.later ((Below.refl _ _).alloc (Nat.le_refl _) (.cells (msgA ⟨#[]⟩ ⟨#[]⟩ xk xa a7 a4 a8) 65)) hL2.lt
      have hrow := msg_rowL hm
      rw [World.size_setCell] at hrow
      have hC5 : ConRow ((wr.setCell ⟨N, 19, none⟩ (.slice sa sn sc)).alloc (.cells (msgA ⟨#[]⟩ ⟨#[]⟩ xk xa a7 a4 a8) 65)) (.slice sa sn sc) k (fun i => z9.getD i 0) (fun i => (i : Int)) g :=
        HS.out.2.2.kept (((Kp.refl (fun j => j = N) wr).setCell (p := ⟨N, 19, none⟩) (fun _ => rfl) _).alloc _) (by have := HS.out.1; omega)
      have hg5 : g < ((wr.setCell ⟨N, 19, none⟩ (.slice sa sn sc)).alloc (.cells (msgA ⟨#[]⟩ ⟨#[]⟩ xk xa a7 a4 a8) 65)).heap.size := by have := HS.out.2.1; simp; omega
      have hgN : N < g := by have := HS.out.1; omega
      go_upto_region 20 with fail
      rw [World.size_setCell] at hm
      generalize World.alloc _ (.cells (msgA ⟨#[]⟩ ⟨#[]⟩ xk xa a7 a4 a8) 65) = w5 at hL3 hm hrow hC5 hg5 ⊢
      go_cut [] from 98 to 100 (fun wx => EndSelf w B H N a0 a1 a2 a3 xk xa a7 k z9 wx ∨ EndOwn w B H N a0 a1 a2 a3 xk xa a4 a7 a8 r k z9 wx ∨ EndFar w B H N a0 a1 a2 a3 xk xa a4 a7 a8 k z9 wx)
      case first =>
        have hok2 := hok.upd (.slice sa sn sc)
        have hHN := hL3.hN
        have hNw := hL3.lt
        clear hL2 hLr c19 f19 x0 x1 hm HS hok
        cases hpq : peq xk xa a0 a1 with
        | true =>
          obtain ⟨rfl, rfl⟩ := (peq_iff _ _ _ _).1 hpq
          go_wp2_with fail
          refine (merge_self N _ ⟨#[]⟩ ⟨#[]⟩ xk xa a4 a7 a8 (.slice sa sn sc) (fun i => z9.getD i 0) (fun i => (i : Int)) k g w5 hL3.n hNw hl hok2.is.h0 hok2.is.h1 rfl hC5 (by omega) hg5).mono ?_
          rintro e w6 ⟨rfl, S', s1, s2, s3⟩
          have HF : Hid (EndSelf w B H N xk xa a2 a3 xk xa a7 k z9 w6) := by
            have hs6 := s3.size
            exact ⟨_, g, S', hpq, hL3.peers s3 (fun j hj => by rcases hj with rfl | rfl <;> omega), hL3.h.kept s3 (by omega) (by omega), s1, hok2.is.h11, hok2.is.h12, rfl, hok2.h21, hok2.h66, hok2.h67, s2, .inr (by omega), by omega, by omega⟩
          clear s1 s2 s3 hrow
          go_wp2
          go_meet
          case rel => exact .inl HF.out
        | false =>
          cases harc : arc a0 xk a2 with
          | true =>
            obtain ⟨o, h28⟩ := hok2.h28
            have hxk : xk.size ≤ maxLen := by rcases hx with ⟨rfl, _⟩ | ⟨rfl, _⟩ <;> assumption
            go_wp2_with fail
            refine (merge_own N H _ ⟨#[]⟩ ⟨#[]⟩ a0 a1 a2 a3 xk xa a4 a7 a8 r hxk w5 hL3.n hNw hok2.is hok2.h2 hok2.h5 hok2.h21 hok2.h22 hok2.h23 o h28 hok2.h66 hok2.h67 hL3.h (by omega) (by omega) hpq harc).mono ?_
            rintro e w6 ⟨rfl, c', L, lg, lcap, g1, cap1, g2, cap2, s1, s2, s3, s4, s5, s6, s7, s8, s9, s10, s11, s12, s13, s14, s15⟩
            have HF : Hid (EndOwn w B H N a0 a1 a2 a3 xk xa a4 a7 a8 r k z9 w6) := by
              have hs6 := s15.size
              exact ⟨c', g, .slice sa sn sc, L, lg, lcap, g1, cap1, g2, cap2, hpq, harc, hL3.peers s15 (fun j hj => by rcases hj with rfl | rfl <;> omega), s12, s13, s14, s1, s3, s4, s5, s2 19 (by decide), s6, (s2 43 (by decide)).trans hok2.is.h43, (s2 44 (by decide)).trans hok2.is.h44, s7, s8, s9, s10, s11, hC5.kept s15 (by omega)⟩
            clear s1 s2 s3 s4 s5 s6 s7 s8 s9 s10 s11 s12 s13 s14 s15 hrow
            go_wp2
            go_meet
            case rel => exact .inr (.inl HF.out)
          | false =>
            obtain ⟨ad, cap, h32⟩ := hok2.is.h32
            obtain ⟨m, h68⟩ := hok2.h68
            go_wp2_with fail
            refine (merge_far N H _ ⟨#[]⟩ ⟨#[]⟩ a0 a1 a2 a3 xk xa a4 m a7 a8 ad cap w5 hL3.n hNw hok2.is.h0 hok2.is.h1 hok2.h2 hok2.h21 hok2.h23 h32 hok2.h34 hok2.h66 hok2.h67 h68 hL3.h (by omega) (by omega) hpq harc).mono ?_
            rintro e w6 ⟨rfl, g1, cap1, g2, cap2, s1, s2, s3, s4, s5⟩
            have HF : Hid (EndFar w B H N a0 a1 a2 a3 xk xa a4 a7 a8 k z9 w6) := by
              have hs6 := s5.size
              exact ⟨_, g, .slice sa sn sc, g1, cap1, g2, cap2, hpq, harc, hL3.peers s5 (fun j hj => by subst hj; omega), s2, s3, s4, s1, hok2.h5, hok2.is.h11, hok2.is.h12, rfl, hok2.h21, hok2.h66, hok2.h67, hC5.kept s5 (by omega)⟩
            clear s1 s2 s3 s4 s5 hrow
            go_wp2
            go_meet
            case rel => exact .inr (.inr HF.out)
      case rest =>
        rename_i hK
        rcases hcut with hE | hE | hE
        · exact hK _ _ (tail_self a0 a1 a2 a3 a4 a5 a6 a7 a8 a9 k cap9 z9 a10 w hl B H N HB HZ r xk xa _ hE _ _ _ _ _ _ _ _ _ _ _ _ _ _ _ _ _ _ _ _ _ _ _ _ _ _ _ _ _ _ _ _ _ _ _ _ _ _ _ _ _ _ _ _ _ _ _ _ _ _ _ _ _ _ _ _ _ _ _ _ _ _ _ _)
        · obtain ⟨rfl, rfl⟩ : xk = a4 ∧ xa = a5 := by
            rcases hx with ⟨rfl, rfl⟩ | h
            · obtain ⟨c, g0, S, L, lg, lcap, g, cap, g2, cap2, hpq, _⟩ := hE
              rw [peq_self] at hpq; cases hpq
            · exact h
          exact hK _ _ (tail_own a0 a1 a2 a3 xk xa a6 a7 a8 a9 k cap9 z9 a10 w hl B H N HB HZ r _ hE _ _ _ _ _ _ _ _ _ _ _ _ _ _ _ _ _ _ _ _ _ _ _ _ _ _ _ _ _ _ _ _ _ _ _ _ _ _ _ _ _ _ _ _ _ _ _ _ _ _ _ _ _ _ _ _ _ _ _ _ _ _ _ _)
        · obtain ⟨rfl, rfl⟩ : xk = a4 ∧ xa = a5 := by
            rcases hx with ⟨rfl, rfl⟩ | h
            · obtain ⟨c, g0, S, g, cap, g2, cap2, hpq, _⟩ := hE
              rw [peq_self] at hpq; cases hpq
            · exact h
          exact hK _ _ (tail_far a0 a1 a2 a3 xk xa a6 a7 a8 a9 k cap9 z9 a10 w hl B H N HB HZ r _ hE _ _ _ _ _ _ _ _ _ _ _ _ _ _ _ _ _ _ _ _ _ _ _ _ _ _ _ _ _ _ _ _ _ _ _ _ _ _ _ _ _ _ _ _ _ _ _ _ _ _ _ _ _ _ _ _ _ _ _ _ _ _ _ _)
end Go.Proofs.Ybulkbpca
