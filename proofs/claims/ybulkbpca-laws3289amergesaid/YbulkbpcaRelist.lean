import Derived.Test.YbulkbpcaSync
import Derived.Deep.AppendLies
namespace Go.Proofs.Ybulkbpca
open Go.ChangeShapes Go.WideShapes Go.ChangeAt Go.RowKit
set_option linter.unusedVariables false
attribute [local go_sem ↓] Go.wp_at_zero Go.wp_at_succ
attribute [local go_sem ↓] eq_peer
attribute [local go_sem] guard_peer field_key

theorem Yba.infoPeer : (Yba.prog.info? 25).map (fun i => (i.zero, i.size, i.bytes)) = some (some (.agg #[.string ⟨#[]⟩, .string ⟨#[]⟩]), 2, 32) := by kernel_rfl

theorem peer_news {w : World} {g : Nat} {k a : ByteArray} (h : Blk w g 2 (peerC k a)) : ∀ j u, [Value.string k, .string a][j]? = some u → w.cell? ((⟨g, 0, none⟩ : Addr).add j) = some u := by
  intro j u hu
  match j, hu with
  | 0, hu => simp at hu; subst hu; exact h.1 0 (by omega)
  | 1, hu => simp at hu; subst hu; exact h.1 1 (by omega)

/-- A row of one peer that a list owns. -/
theorem peer_row {w : World} {g cap base : Nat} {k a : ByteArray} (h : w.ownsRow base 25 2 (.slice (some ⟨g, 0, none⟩) 1 cap) 1 [.string k, .string a]) : Blk w g 2 (peerC k a) := by
  refine ⟨fun j hj => ?_, fun j => h.frozenAt j⟩
  rw [h.cellAt j (by omega)]
  rcases (show j = 0 ∨ j = 1 from by omega) with rfl | rfl <;> rfl

/-- The lists' two cells. -/
def listsC (g cap : Nat) : Nat → Value := fun j => if j = 0 then .slice (some ⟨g, 0, none⟩) 1 cap else .slice none 0 0

theorem relist_app {w w1 : World} {N g cap : Nat} {c : Nat → Value} {k a : ByteArray} (hb : Blk w N 258 c) (hN : N < w.heap.size)
    (hown : w1.ownsRow 0 25 2 (.slice (some ⟨g, 0, none⟩) (0 + 1) cap) (0 + 1) ([] ++ [.string k, .string a])) (hgrow : (w.alloc (.cells #[.slice none 0 0, .slice none 0 0] 114)).grownBy w1 none)
    (hgb : (none : Option Nat) = some g ∨ g = w.heap.size + 1) (hgl : g < w1.heap.size) :
    Blk w1 N 258 c ∧ Blk w1 w.heap.size 2 (fun _ => .slice none 0 0) ∧ Blk w1 g 2 (peerC k a) ∧ g = w.heap.size + 1 ∧ Below w.heap.size w w1 ∧ w.heap.size < w1.heap.size ∧ g < w1.heap.size := by
  have hgb' : g = w.heap.size + 1 := by rcases hgb with h | h; cases h; exact h
  have hB : Below (w.heap.size + 1) (w.alloc (.cells #[.slice none 0 0, .slice none 0 0] 114)) w1 := (Below.refl _ _).grown hgrow (by simp) (fun k h => by cases h)
  have hL : Blk (w.alloc (.cells #[.slice none 0 0, .slice none 0 0] 114)) w.heap.size 2 (fun _ => .slice none 0 0) :=
    (Blk.fresh w #[.slice none 0 0, .slice none 0 0] 114).congr (fun j hj => by
      have hj2 : j < 2 := by simpa using hj
      rcases (show j = 0 ∨ j = 1 from by omega) with rfl | rfl <;> rfl)
  refine ⟨(hb.alloc hN _).below hB (by omega), hL.below hB (by omega), peer_row hown, hgb', ((Below.refl _ _).alloc (Nat.le_refl _) _).trans (hB.mono (by omega)), by omega, hgl⟩

theorem relist_mid {w w1 : World} {N L g cap : Nat} {c : Nat → Value} {k a : ByteArray} (hb : Blk w1 N 258 c) (hl : Blk w1 L 2 (fun _ => .slice none 0 0)) (hp : Blk w1 g 2 (peerC k a)) (hB : Kp (fun j => j = N) w w1) (hL : w.heap.size ≤ L) (hLN : L ≠ N) (hgN : g ≠ N) (hgL : g ≠ L) :
    Blk (((w1.setCell ⟨L, 0, none⟩ (.slice (some ⟨g, 0, none⟩) 1 cap)).setCell ⟨N, 11, none⟩ (.pointer (some ⟨L, 0, none⟩))).setCell ⟨N, 12, none⟩ (.int .u64 1)) N 258 (upd (upd c 11 (.pointer (some ⟨L, 0, none⟩))) 12 (.int .u64 1)) ∧
    Blk (((w1.setCell ⟨L, 0, none⟩ (.slice (some ⟨g, 0, none⟩) 1 cap)).setCell ⟨N, 11, none⟩ (.pointer (some ⟨L, 0, none⟩))).setCell ⟨N, 12, none⟩ (.int .u64 1)) L 2 (listsC g cap) ∧
    Blk (((w1.setCell ⟨L, 0, none⟩ (.slice (some ⟨g, 0, none⟩) 1 cap)).setCell ⟨N, 11, none⟩ (.pointer (some ⟨L, 0, none⟩))).setCell ⟨N, 12, none⟩ (.int .u64 1)) g 2 (peerC k a) ∧
    Kp (fun j => j = N) w (((w1.setCell ⟨L, 0, none⟩ (.slice (some ⟨g, 0, none⟩) 1 cap)).setCell ⟨N, 11, none⟩ (.pointer (some ⟨L, 0, none⟩))).setCell ⟨N, 12, none⟩ (.int .u64 1)) := by
  refine ⟨((hb.setOther _ (by simpa using Ne.symm hLN) _).set 11 (by omega) _).set 12 (by omega) _, ?_, ?_, ?_⟩
  · refine (((hl.set 0 (by omega) _).setOther _ (by simpa using hLN) _).setOther _ (by simpa using hLN) _).congr fun j hj => ?_
    rcases (show j = 0 ∨ j = 1 from by omega) with rfl | rfl <;> rfl
  · exact ((hp.setOther _ (by simpa using hgL) _).setOther _ (by simpa using hgN) _).setOther _ (by simpa using hgN) _
  · refine Kp.setCell (Kp.setCell (Kp.setCell hB ?_ _) ?_ _) ?_ _
    · intro h; simp at h; omega
    · intro _; rfl
    · intro _; rfl

/-- What 'relist(Forward, {p})' leaves. -/
def RelistPost (N : Nat) (c : Nat → Value) (k a : ByteArray) (r : Int) (w w' : World) : Prop :=
  ∃ (L g cap : Nat), Blk w' N 258 (upd (upd (upd (upd c 11 (.pointer (some ⟨L, 0, none⟩))) 12 (.int .u64 1)) 57 (.int .i64 (minI 2 r))) 5 (.bool true)) ∧
    Blk w' L 2 (listsC g cap) ∧ Blk w' g 2 (peerC k a) ∧ Kp (fun j => j = N) w w' ∧ w.heap.size ≤ L ∧ w.heap.size ≤ g ∧ L ≠ N ∧ g ≠ N ∧ g ≠ L

theorem relist_end {w w7 : World} {N L g cap : Nat} {c : Nat → Value} {k a : ByteArray} {r : Int} (hb : Blk w7 N 258 (upd (upd (upd c 11 (.pointer (some ⟨L, 0, none⟩))) 12 (.int .u64 1)) 57 (.int .i64 (minI 2 r))))
    (hl : Blk w7 L 2 (listsC g cap)) (hp : Blk w7 g 2 (peerC k a)) (hK : Kp (fun j => j = N) w w7) (h1 : w.heap.size ≤ L) (h2 : w.heap.size ≤ g) (h3 : L ≠ N) (h4 : g ≠ N) (h5 : g ≠ L) :
    RelistPost N c k a r w (w7.setCell ⟨N, 5, none⟩ (.bool true)) :=
  ⟨L, g, cap, hb.set 5 (by omega) _, hl.setOther _ (by simpa using h3) _, hp.setOther _ (by simpa using h4) _, hK.setCell (fun _ => rfl) _, h1, h2, h3, h4, h5⟩

set_option maxRecDepth 100000 in
set_option maxHeartbeats 2000000 in
/-- 'relist(Forward, {p})' at a node without lists. -/
theorem relist_one (N g0 : Nat) (c : Nat → Value) (k a uk ua : ByteArray) (r v : Int) (ad : Option Addr) (cap : Nat) (w : World) (hb : Blk w N 258 c) (hN : N < w.heap.size) (hg0 : g0 < w.heap.size) (hgN : g0 ≠ N) (hp : Blk w g0 2 (peerC k a))
    (h0 : c 0 = .string uk) (h1 : c 1 = .string ua) (h3 : c 3 = .bool false) (h7 : c 7 = .int .i64 r) (hr : 1 ≤ r) (hr5 : r ≤ 5) (h11 : c 11 = .pointer none) (h12 : c 12 = .int .u64 0) (h32 : c 32 = .slice ad 0 cap)
    (h54 : c 54 = .map none) (h55 : c 55 = .map none) (h56 : c 56 = .map none) (h57 : c 57 = .int .i64 0) (h58 : c 58 = .map none) (hpq : peq k a uk ua = false) :
    Calls Yba.prog 26 #[.pointer (some ⟨N, 0, none⟩), .int .u8 0, .slice (some ⟨g0, 0, none⟩) 1 1] w fun e w' => e = .returned (.tuple #[]) ∧ RelistPost N c k a r w w' := by
  obtain ⟨i0, hi, hz0, hz1, hz2⟩ := info_parts Yba.infoPeer
  have c7 : w.cell? ⟨N, 7, none⟩ = some (.int .i64 r) := (hb.1 7 (by omega)).trans (by rw [h7])
  have c11 : w.cell? ⟨N, 11, none⟩ = some (.pointer none) := (hb.1 11 (by omega)).trans (by rw [h11])
  go_enter Yba.func26, Yba.ntmps26
  go_wp2_with fail
  refine (in_nil 0 _).mono ?_
  rintro e w' ⟨rfl, rfl⟩
  go_wp2_with fail
  refine (equalPeers_no _ _ _).mono ?_
  rintro e w' ⟨rfl, rfl⟩
  have hnews := peer_news (hp.alloc hg0 (.cells #[.slice none 0 0, .slice none 0 0] 114))
  go_wp2_with (at_builtin; refine wpList_append_lies _ rfl _ _ 27 rfl 0 25 i0 _ 2 32 Yba.underlying27 hi hz0 hz1 hz2 rfl (by decide) (.slice none 0 0) 0 [] rfl (World.ownsRow_nil _ _ _ _) ⟨g0, 0, none⟩ 1 _ [.string k, .string a] rfl rfl hnews (by simp [Value.oneCell']) (by omega) (by unfold maxLen; omega) (by omega) (by omega) (w'.heap.size + 1) (by simp) ?_; intro g cap' w1 hown hgrow hgb hgl; have F := relist_app hb hN hown hgrow hgb hgl; clear hown hgrow hgb hgl; obtain ⟨hb1, hl1, hp1, hge, hB1, hLw, hgw⟩ := F; have l0 : w1.cell? ⟨w'.heap.size, 0, none⟩ = some (.slice none 0 0) := hl1.1 0 (by omega); have lf0 := hl1.2 0; have e11 := hb1.1 11 (by omega); have f11 := hb1.2 11; have e12 : w1.cell? ⟨N, 12, none⟩ = some (.int .u64 0) := (hb1.1 12 (by omega)).trans (by rw [h12]); have f12 := hb1.2 12; have hNL : N ≠ w'.heap.size := (by omega); have HG : Hid (g = w'.heap.size + 1) := hge; clear hge hnews c7 c11)
  have hLN : w'.heap.size ≠ N := Ne.symm hNL
  have F := relist_mid (cap := cap') hb1 hl1 hp1 (Kp.of_below hB1) (Nat.le_refl _) hLN (by have := HG.out; omega) (by have := HG.out; omega)
  generalize World.setCell _ ⟨N, 12, none⟩ (.int .u64 1) = w2 at F ⊢
  obtain ⟨hb2, hl2, hp2, hK2⟩ := F
  have hN2 : N < w2.heap.size := Nat.lt_of_lt_of_le hN hK2.size
  have hL2 : w'.heap.size < w2.heap.size := hl2.lt (by omega)
  have hg2 : g < w2.heap.size := hp2.lt (by omega)
  clear l0 lf0 e11 f11 e12 f12 hb1 hl1 hp1 hB1 hLw hgw
  have e57 : w2.cell? ⟨N, 57, none⟩ = some (.int .i64 0) := (hb2.1 57 (by omega)).trans (by simp [upd, h57])
  have f57 := hb2.2 57
  have hmin : 1 ≤ minI 2 r := by unfold minI; split <;> omega
  go_region_with (go_at_call 29; refine (listed_two N w'.heap.size g cap' _ k a uk ua r _ (by exact hb2.drew) (by exact hN2) (by exact hL2) (by exact hg2) (by simp [upd, h0]) (by simp [upd, h1]) (by simp [upd, h7]) (by simp [upd]) (by simp [upd, h58]) (by exact hl2.drew) (by exact hp2.drew) hpq).mono ?_; rintro e w3 ⟨rfl, hB3⟩; have d57 := (hB3.cell (p := ⟨N, 57, none⟩) hN2).trans e57; have g57 := (hB3.frozen (p := ⟨N, 57, none⟩) hN2).trans f57)
  all_goals
    have hb3 := (hb2.drew.below hB3 hN2).set 57 (by omega) (.int .i64 (minI 2 r))
    have hl3 := (hl2.drew.below hB3 hL2).setOther ⟨N, 57, none⟩ (by simpa using hLN) (.int .i64 (minI 2 r))
    have hp3 := (hp2.drew.below hB3 hg2).setOther ⟨N, 57, none⟩ (by have := HG.out; simp; omega) (.int .i64 (minI 2 r))
    have hK3 := (hK2.drew.then hB3).setCell (p := ⟨N, 57, none⟩) (fun _ => rfl) (.int .i64 (minI 2 r))
    have hN3 : N < (w3.setCell ⟨N, 57, none⟩ (.int .i64 (minI 2 r))).heap.size := by have := hB3.size; simp at this ⊢; omega
    have hL3 : w'.heap.size < (w3.setCell ⟨N, 57, none⟩ (.int .i64 (minI 2 r))).heap.size := by have := hB3.size; simp at this ⊢; omega
    have hg3 : g < (w3.setCell ⟨N, 57, none⟩ (.int .i64 (minI 2 r))).heap.size := by have := hB3.size; simp at this ⊢; omega
    go_wp2_with fail
    generalize w3.setCell ⟨N, 57, none⟩ (.int .i64 (minI 2 r)) = w4 at hb3 hl3 hp3 hK3 hN3 hL3 hg3 ⊢
    clear d57 g57 hB3 hb2 hl2 hp2 hK2 e57 f57
    refine (tell_none N _ uk ua ad cap r w4 hb3 hN3 (by simp [upd, h0]) (by simp [upd, h1]) (by simp [upd, h3]) (by simp [upd, h7]) (by simp [upd, h32])).mono ?_
    rintro e w5 ⟨rfl, hB5⟩
    have hb5 := hb3.below hB5 hN3
    have hl5 := hl3.below hB5 hL3
    have hp5 := hp3.below hB5 hg3
    have hK5 := hK3.then hB5
    have hN5 : N < w5.heap.size := Nat.lt_of_lt_of_le hN3 hB5.size
    have hL5 : w'.heap.size < w5.heap.size := Nat.lt_of_lt_of_le hL3 hB5.size
    have hg5 : g < w5.heap.size := Nat.lt_of_lt_of_le hg3 hB5.size
    clear hB5 hb3 hl3 hp3 hK3 hN3 hL3 hg3
    go_wp2_with fail
    go_quiet (fail)
    go_wp2_with fail
    refine (resync_none N 1 (by decide) _ (by exact hN5) (by exact ((hb5.drewN _).1 54 (by omega)).trans (by simp [upd, h54])) (by exact ((hb5.drewN _).1 55 (by omega)).trans (by simp [upd, h55])) (by exact ((hb5.drewN _).1 56 (by omega)).trans (by simp [upd, h56]))).mono ?_
    rintro e w6 ⟨rfl, hB6⟩
    have hb6 := (hb5.drewN nq).below hB6 hN5
    have hl6 := (hl5.drewN nq).below hB6 hL5
    have hp6 := (hp5.drewN nq).below hB6 hg5
    have hK6 := (hK5.drewN nq).then hB6
    have hN6 : N < w6.heap.size := Nat.lt_of_lt_of_le hN5 hB6.size
    have hL6 : w'.heap.size < w6.heap.size := Nat.lt_of_lt_of_le hL5 hB6.size
    have hg6 : g < w6.heap.size := Nat.lt_of_lt_of_le hg5 hB6.size
    clear hB6 hb5 hl5 hp5 hK5 hN5 hL5 hg5
    go_wp2_with fail
    refine (resync_none N 0 (by decide) _ hN6 ((hb6.1 54 (by omega)).trans (by simp [upd, h54])) ((hb6.1 55 (by omega)).trans (by simp [upd, h55])) ((hb6.1 56 (by omega)).trans (by simp [upd, h56]))).mono ?_
    rintro e w7 ⟨rfl, hB7⟩
    have hb7 := hb6.below hB7 hN6
    have HF : Hid (RelistPost N c k a r w' (w7.setCell ⟨N, 5, none⟩ (.bool true))) := relist_end hb7 (hl6.below hB7 hL6) (hp6.below hB7 hg6) (hK6.then hB7) (Nat.le_refl _) (by have := HG.out; omega) hLN (by have := HG.out; omega) (by have := HG.out; omega)
    have e5 := hb7.1 5 (by omega)
    have f5 := hb7.2 5
    clear hb7 hB7 hb6 hl6 hp6 hK6 hN6 hL6 hg6
    go_wp2
    refine bodyPost_ret (v := .tuple #[]) (by simp [results, Yba.results26, go_sem]) rfl ⟨rfl, HF.out⟩
end Go.Proofs.Ybulkbpca
