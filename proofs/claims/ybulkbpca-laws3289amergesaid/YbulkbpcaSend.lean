import Derived.Test.YbulkbpcaRow
namespace Go.Proofs.Ybulkbpca
open Go.ChangeShapes Go.WideShapes Go.ChangeAt Go.RowKit
set_option linter.unusedVariables false
attribute [local go_sem ↓] Go.wp_at_zero Go.wp_at_succ
attribute [local go_sem ↓] eq_peer
attribute [local go_sem] guard_peer field_key msg_cells rowL_drew rowL_drewN rowL_alloc rowL_setCell load_msg buildSlice_msg
attribute [local go_sem ↓] load_msg0 build_msg0

/-- Behind an append to nil of one element that was laid into a block of its own. -/
theorem app_nil {w w1 : World} {o : Obj} {g : Nat} (hgrow : (w.alloc o).drew.grownBy w1 none) (hgb : (none : Option Nat) = some g ∨ g = w.heap.size + 1) : Below (w.heap.size + 1) (w.alloc o).drew w1 ∧ Below w.heap.size w w1 ∧ g = w.heap.size + 1 := by
  have hgb' : g = w.heap.size + 1 := by rcases hgb with h | h; cases h; exact h
  have hB : Below (w.heap.size + 1) (w.alloc o).drew w1 := (Below.refl _ _).grown hgrow (by simp) (fun k h => by cases h)
  exact ⟨hB, (((Below.refl _ _).alloc (Nat.le_refl _) _).drew).trans (hB.mono (by omega)), hgb'⟩

/-- What one 'Send' leaves at a host that had heard of nothing: host block H, the peer's row g, the message's row g2. -/
def SentPost (H : Nat) (k a fk fa xk xa : ByteArray) (id : Int) (key : ByteArray) (hops n : Int) (w w' : World) : Prop :=
  ∃ (g cap g2 cap2 : Nat), Blk w' H 3 (fun j => if j = 0 then .slice (some ⟨g, 0, none⟩) 1 cap else if j = 1 then .slice (some ⟨g2, 0, none⟩) 1 cap2 else .int .i64 n) ∧
    Blk w' g 2 (peerC k a) ∧ Blk w' g2 23 (msgC fk fa xk xa id key hops) ∧ Kp (fun j => j = H) w w' ∧ w.heap.size ≤ g ∧ w.heap.size ≤ g2 ∧ g ≠ g2

theorem msg_row {w : World} {g cap base : Nat} {fk fa xk xa : ByteArray} {id : Int} {key : ByteArray} {hops : Int} (h : w.ownsRow base 65 23 (.slice (some ⟨g, 0, none⟩) 1 cap) 1 (msgL fk fa xk xa id key hops)) : Blk w g 23 (msgC fk fa xk xa id key hops) := by
  refine ⟨fun j hj => ?_, fun j => h.frozenAt j⟩
  rw [h.cellAt j (by omega)]
  have hl : (msgL fk fa xk xa id key hops).length = 23 := rfl
  unfold msgC
  rw [List.getD_eq_getElem?_getD, List.getElem?_eq_getElem (by omega)]
  rfl

/-- Between the two appends of 'Send'. -/
def SentMid (H M : Nat) (k a fk fa xk xa : ByteArray) (id : Int) (key : ByteArray) (hops n : Int) (w w4 : World) : Prop :=
  ∃ (g cap : Nat), Blk w4 H 3 (fun j => if j = 0 then .slice (some ⟨g, 0, none⟩) 1 cap else if j = 1 then .slice none 0 0 else .int .i64 n) ∧
    Blk w4 M 23 (msgC fk fa xk xa id key hops) ∧ Blk w4 g 2 (peerC k a) ∧ Kp (fun j => j = H) w w4 ∧ H < w4.heap.size ∧ M < w4.heap.size ∧ g < w4.heap.size ∧ g ≠ H ∧ w.heap.size ≤ g

theorem sent1 {w w2 w3 : World} {H P g cap : Nat} {k a fk fa xk xa : ByteArray} {id : Int} {key : ByteArray} {hops n : Int} (hh2 : Blk w2 H 3 (fun j => if j = 2 then .int .i64 n else .slice none 0 0)) (hm2 : Blk w2 (P + 1) 23 (msgC fk fa xk xa id key hops)) (hK2 : Kp (fun j => j = H) w w2)
    (hH2 : H < w2.heap.size) (hM2 : P + 1 < w2.heap.size) (hMH : P + 1 ≠ H) (hB : Below w2.heap.size w2 w3) (hge : g = w2.heap.size + 1) (hown : w3.ownsRow 0 25 2 (.slice (some ⟨g, 0, none⟩) (0 + 1) cap) (0 + 1) ([] ++ [.string k, .string a])) :
    Blk (w3.setCell ⟨H, 0, none⟩ (.slice (some ⟨g, 0, none⟩) 1 cap)) H 3 (fun j => if j = 0 then .slice (some ⟨g, 0, none⟩) 1 cap else if j = 1 then .slice none 0 0 else .int .i64 n) ∧
    Blk (w3.setCell ⟨H, 0, none⟩ (.slice (some ⟨g, 0, none⟩) 1 cap)) (P + 1) 23 (msgC fk fa xk xa id key hops) ∧ Blk (w3.setCell ⟨H, 0, none⟩ (.slice (some ⟨g, 0, none⟩) 1 cap)) g 2 (peerC k a) ∧
    Kp (fun j => j = H) w (w3.setCell ⟨H, 0, none⟩ (.slice (some ⟨g, 0, none⟩) 1 cap)) ∧ H < (w3.setCell ⟨H, 0, none⟩ (.slice (some ⟨g, 0, none⟩) 1 cap)).heap.size ∧ P + 1 < (w3.setCell ⟨H, 0, none⟩ (.slice (some ⟨g, 0, none⟩) 1 cap)).heap.size ∧ g < (w3.setCell ⟨H, 0, none⟩ (.slice (some ⟨g, 0, none⟩) 1 cap)).heap.size ∧ g ≠ H ∧ w.heap.size ≤ g := by
  have hpr : Blk w3 g 2 (peerC k a) := peer_row hown
  have hgl := hpr.lt (by omega)
  have hs := hB.size
  have hs2 := hK2.size
  refine ⟨?_, (hm2.below hB hM2).setOther _ (by simpa using hMH) _, hpr.setOther _ (by simp; omega) _, (hK2.then hB).setCell (fun _ => rfl) _, by simp; omega, by simp; omega, by simp; omega, by omega, by omega⟩
  refine ((hh2.below hB hH2).set 0 (by omega) _).congr fun j hj => ?_
  rcases (show j = 0 ∨ j = 1 ∨ j = 2 from by omega) with rfl | rfl | rfl <;> rfl

theorem sent2 {w w4 w5 : World} {H g cap g2 cap2 : Nat} {k a fk fa xk xa : ByteArray} {id : Int} {key : ByteArray} {hops n : Int} (hh4 : Blk w4 H 3 (fun j => if j = 0 then .slice (some ⟨g, 0, none⟩) 1 cap else if j = 1 then .slice none 0 0 else .int .i64 n))
    (hp4 : Blk w4 g 2 (peerC k a)) (hK4 : Kp (fun j => j = H) w w4) (hH4 : H < w4.heap.size) (hg4 : g < w4.heap.size) (hgH : g ≠ H) (hgw : w.heap.size ≤ g) (hB : Below w4.heap.size w4 w5) (hge : g2 = w4.heap.size + 1)
    (hown : w5.ownsRow 0 65 23 (.slice (some ⟨g2, 0, none⟩) (0 + 1) cap2) (0 + 1) ([] ++ msgL fk fa xk xa id key hops)) :
    SentPost H k a fk fa xk xa id key hops n w (w5.setCell ⟨H, 1, none⟩ (.slice (some ⟨g2, 0, none⟩) 1 cap2)) := by
  have hmr : Blk w5 g2 23 (msgC fk fa xk xa id key hops) := msg_row hown
  have hs := hB.size
  have hs2 := hK4.size
  refine ⟨g, cap, g2, cap2, ?_, (hp4.below hB hg4).setOther _ (by simpa using hgH) _, hmr.setOther _ (by simp; omega) _, (hK4.then hB).setCell (fun _ => rfl) _, hgw, by omega, by omega⟩
  refine ((hh4.below hB hH4).set 1 (by omega) _).congr fun j hj => ?_
  rcases (show j = 0 ∨ j = 1 ∨ j = 2 from by omega) with rfl | rfl | rfl <;> rfl

set_option maxRecDepth 100000 in
set_option maxHeartbeats 1000000 in
/-- The host's 'Send' at a host that has heard of nothing. -/
theorem send_host (H : Nat) (k a fk fa xk xa key : ByteArray) (id hops n : Int) (w : World) (hh : Blk w H 3 (fun j => if j = 2 then .int .i64 n else .slice none 0 0)) (hH : H < w.heap.size) :
    Calls Yba.prog 97 #[.pointer (some ⟨H, 0, none⟩), .agg #[.string k, .string a], .agg (msgA fk fa xk xa id key hops)] w fun e w' => e = .returned (.tuple #[]) ∧ SentPost H k a fk fa xk xa id key hops n w w' := by
  obtain ⟨i0, hi, hz0, hz1, hz2⟩ := info_parts Yba.infoPeer
  obtain ⟨i1, hi1, hz01, hz11, hz21⟩ := info_parts Yba.infoMsg
  have c0 : w.cell? ⟨H, 0, none⟩ = some (.slice none 0 0) := hh.1 0 (by omega)
  have f0 := hh.2 0
  go_enter Yba.func97, Yba.ntmps97
  go_wp2
  have hh2 := (hh.alloc hH (.cells #[.string k, .string a] 25)).alloc (by simp; omega) (.cells (msgA fk fa xk xa id key hops) 65)
  have hp2 := (peer_fresh w k a 25).alloc (by simp) (.cells (msgA fk fa xk xa id key hops) 65)
  have hm2 := msg_fresh (w.alloc (.cells #[.string k, .string a] 25)) fk fa xk xa id key hops 65
  have hs2 : ((w.alloc (.cells #[.string k, .string a] 25)).alloc (.cells (msgA fk fa xk xa id key hops) 65)).heap.size = w.heap.size + 2 := by simp
  have hK2 : Kp (fun j => j = H) w ((w.alloc (.cells #[.string k, .string a] 25)).alloc (.cells (msgA fk fa xk xa id key hops) 65)) := ((Kp.refl _ w).alloc _).alloc _
  rw [World.size_alloc] at hm2
  obtain ⟨P, hP⟩ : ∃ P, P = w.heap.size := ⟨_, rfl⟩
  rw [← hP] at hp2 hm2 hs2 ⊢
  generalize World.alloc _ (.cells (msgA fk fa xk xa id key hops) 65) = w2 at hh2 hp2 hm2 hs2 hK2 ⊢
  have hH2 : H < w2.heap.size := by omega
  have hP2 : P < w2.heap.size := by omega
  have hM2 : P + 1 < w2.heap.size := by omega
  have hPH : P ≠ H := by omega
  have hMH : P + 1 ≠ H := by omega
  have d0 : w2.cell? ⟨H, 0, none⟩ = some (.slice none 0 0) := hh2.1 0 (by omega)
  have p0 : w2.cell? ⟨P, 0, none⟩ = some (.string k) := hp2.1 0 (by omega)
  have p1 : w2.cell? ⟨P, 1, none⟩ = some (.string a) := hp2.1 1 (by omega)
  clear c0 f0 hP hs2
  go_cut [] (fun wx => SentMid H (P + 1) k a fk fa xk xa id key hops n w wx)
  case first =>
    go_region_law ((refine step_append_lies _ (by rfl) _ _ 27 (by rfl) 0 25 i0 _ 2 32 Yba.underlying27 hi hz0 hz1 hz2 rfl (by omega) (.slice none 0 0) 0 [] (by rfl) (World.ownsRow_nil _ _ _ _) ⟨w2.heap.size, 0, none⟩ 1 1 [.string k, .string a] (by rfl) (by rfl) (World.news_of_block (cs := #[.string k, .string a]) (t := 25) (fr := (0, 0)) (heap_alloc_new w2 _)) (by simp [Value.oneCell']) (by omega) (by unfold maxLen; omega) (by omega) (by omega) (w2.heap.size + 1) (by simp) ?_; intro g cap w3 hown hgrow hgb hgl; have F : Hid _ := app_nil hgrow hgb; clear hgb; have e0 := (F.out.2.1.cell (p := ⟨H, 0, none⟩) hH2).trans d0; have fe0 := (F.out.2.1.frozen (p := ⟨H, 0, none⟩) hH2).trans (hh2.2 0)))
    all_goals
      go_wp2
      go_meet
      case rel => exact ⟨g, cap, sent1 hh2 hm2 hK2 hH2 hM2 hMH F.out.2.1 F.out.2.2 hown⟩
  case rest =>
    obtain ⟨g, cap, hh4, hm4, hp4, hK4, hH4, hM4, hg4, hgH, hgw⟩ := hcut
    clear hh2 hp2 hm2 hK2 hH2 hP2 hM2 d0 p0 p1
    have hrow := msg_rowL hm4
    have d1 : wc.cell? ⟨H, 1, none⟩ = some (.slice none 0 0) := hh4.1 1 (by omega)
    go_wp2
    go_region_law ((refine step_append_lies _ (by rfl) _ _ 28 (by rfl) 0 65 i1 _ 23 272 Yba.underlying28 hi1 hz01 hz11 hz21 rfl (by omega) (.slice none 0 0) 0 [] (by rfl) (World.ownsRow_nil _ _ _ _) ⟨wc.heap.size, 0, none⟩ 1 1 (msgL fk fa xk xa id key hops) (by rfl) (by rfl) (World.news_of_block (cs := msgA fk fa xk xa id key hops) (t := 65) (fr := (0, 0)) (heap_alloc_new wc _)) (by simp [Value.oneCell', msgL]) (by omega) (by unfold maxLen; omega) (by omega) (by omega) (wc.heap.size + 1) (by simp) ?_; intro g2 cap2 w5 hown hgrow hgb hgl; have F : Hid _ := app_nil hgrow hgb; clear hgb; have e1 := (F.out.2.1.cell (p := ⟨H, 1, none⟩) hH4).trans d1; have fe1 := (F.out.2.1.frozen (p := ⟨H, 1, none⟩) hH4).trans (hh4.2 1)))
    all_goals
      have HF : Hid _ := sent2 hh4 hp4 hK4 hH4 hg4 hgH hgw F.out.2.1 F.out.2.2 hown
      clear hown hgrow hgl F
      go_wp2
      go_end0
      exact ⟨rfl, HF.out⟩
end Go.Proofs.Ybulkbpca
