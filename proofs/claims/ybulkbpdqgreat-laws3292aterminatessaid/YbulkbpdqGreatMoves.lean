import Derived.Test.YbulkbpdqGreatUnread
namespace Go.Proofs.YbulkbpdqGreat
open Go.ChangeShapes Go.WideShapes Go.ChangeAt Go.RowKit Go.MuLone
set_option linter.unusedVariables false

theorem app_step {w w3 : World} {B N : Nat} {V : Value} {e : TypeId} {sz m g cap : Nat} {ms : List Value} {o : Obj} (hsz : B ≤ w.heap.size) (hrow : w.ownsRow B e sz V m ms) (hgrow : (w.alloc o).drew.grownBy w3 V.ownBlock) (hgb : V.ownBlock = some g ∨ g = w.heap.size + 1) :
    Below B w w3 ∧ Kp (fun k => k = N ∨ V.ownBlock = some k) w w3 ∧ Moved w V (.slice (some ⟨g, 0, none⟩) (m + 1) cap) := by
  refine ⟨(((Below.refl _ w).alloc hsz o).drew).trans ((Below.refl _ _).grown hgrow (by simp; omega) (fun j hj => (hrow.lt j hj).1)), (((Kp.refl _ w).alloc o).drew).grown hgrow (fun k hk _ => .inr hk), ?_⟩
  rcases hgb with e | e
  · exact .inl e.symm
  · exact .inr ⟨g, rfl, by omega⟩

/-- What a kept move leaves. -/
def MoveK (w : World) (B N : Nat) (c : Nat → Value) (m : Nat) (w' : World) : Prop :=
  Kp (fun j => j = N ∨ (c 11).ownBlock = some j) w w' ∧ ∃ v ms, Blk w' N 209 (upd (upd c 11 v) 141 (.int .u32 1)) ∧ w'.ownsRow B 187 5 v (m + 1) ms ∧ Moved w (c 11) v

set_option maxRecDepth 100000 in
set_option maxHeartbeats 1000000 in
/-- The frame keeps a move. -/
theorem move_any (B N m : Nat) (c : Nat → Value) (ms : List Value) (w : World) (hb : Blk w N 209 c) (hNB : N < B) (hsz : B ≤ w.heap.size) (hrow : w.ownsRow B 187 5 (c 11) m ms) (hm : m ≤ 1000) :
    Calls Ybaz.prog 62 #[.pointer (some ⟨N, 5, none⟩), .agg #[.int .u64 0, .string ⟨#[]⟩, .bool false, .bool true, .string ⟨#[]⟩]] w fun e w' => e = .returned (.tuple #[]) ∧ MoveK w B N c m w' := by
  obtain ⟨i0, hi, hz0, hz1, hz2⟩ := info_parts Ybaz.infoMove
  have hN := hb.lt (by omega)
  go_enter Ybaz.func62, Ybaz.ntmps62
  go_wp2_with fail
  have hb2 := hb.alloc hN (.cells #[.int .u64 0, .string ⟨#[]⟩, .bool false, .bool true, .string ⟨#[]⟩] 187)
  have hx2 := Blk.fresh w #[.int .u64 0, .string ⟨#[]⟩, .bool false, .bool true, .string ⟨#[]⟩] 187
  have hK2 : Kp (fun j => j = N ∨ (c 11).ownBlock = some j) w (w.alloc (.cells #[.int .u64 0, .string ⟨#[]⟩, .bool false, .bool true, .string ⟨#[]⟩] 187)) := (Kp.refl _ w).alloc _
  have hr2 := hrow.alloc (.cells #[.int .u64 0, .string ⟨#[]⟩, .bool false, .bool true, .string ⟨#[]⟩] 187)
  have hs2 : w.heap.size ≤ (w.alloc (.cells #[.int .u64 0, .string ⟨#[]⟩, .bool false, .bool true, .string ⟨#[]⟩] 187)).heap.size := by simp
  have hP2 : w.heap.size < (w.alloc (.cells #[.int .u64 0, .string ⟨#[]⟩, .bool false, .bool true, .string ⟨#[]⟩] 187)).heap.size := by simp
  obtain ⟨P, hP⟩ : ∃ P, P = w.heap.size := ⟨_, rfl⟩
  have hPN : P ≠ N := by omega
  rw [← hP] at hx2 hP2
  rw [← hP]
  generalize World.alloc w _ = w2 at hb2 hx2 hK2 hs2 hP2 hr2 ⊢
  clear hP
  have hN2 : N < w2.heap.size := by omega
  have hB2 : B ≤ w2.heap.size := by omega
  obtain ⟨V, hV⟩ : ∃ V, V = c 11 := ⟨_, rfl⟩
  have d11 : w2.cell? ⟨N, 11, none⟩ = some V := (hb2.1 11 (by omega)).trans (by rw [hV])
  have HV : Hid (V = c 11) := hV
  rw [← hV] at hr2
  clear hV hrow
  have p0 : w2.cell? ⟨P, 0, none⟩ = some (.int .u64 0) := hx2.1 0 (by simp)
  have p1 : w2.cell? ⟨P, 1, none⟩ = some (.string ⟨#[]⟩) := hx2.1 1 (by simp)
  have p2 : w2.cell? ⟨P, 2, none⟩ = some (.bool false) := hx2.1 2 (by simp)
  have p3 : w2.cell? ⟨P, 3, none⟩ = some (.bool true) := hx2.1 3 (by simp)
  have p4 : w2.cell? ⟨P, 4, none⟩ = some (.string ⟨#[]⟩) := hx2.1 4 (by simp)
  have HS2 : Hid (w.heap.size ≤ w2.heap.size) := hs2
  go_cut [] from 4 to 13 (fun wx => Kp (fun j => j = N ∨ (c 11).ownBlock = some j) w wx ∧ ∃ v ms', Blk wx N 209 (upd c 11 v) ∧ wx.ownsRow B 187 5 v (m + 1) ms' ∧ Moved w (c 11) v)
  case first =>
    go_region_law ((refine step_append_lies _ (by rfl) _ _ 68 (by rfl) B 187 i0 _ 5 56 Ybaz.underlying68 hi hz0 hz1 hz2 rfl (by omega) V m ms (by rfl) (hr2.alloc _) ⟨w2.heap.size, 0, none⟩ 1 1 [.int .u64 0, .string ⟨#[]⟩, .bool false, .bool true, .string ⟨#[]⟩] (by rfl) (by rfl) (World.news_of_block (cs := #[.int .u64 0, .string ⟨#[]⟩, .bool false, .bool true, .string ⟨#[]⟩]) (t := 187) (fr := (0, 0)) (heap_alloc_new w2 _)) (by simp [Value.oneCell']) (by omega) (by unfold maxLen; omega) (by omega) (by simp; omega) (w2.heap.size + 1) (by simp) ?_; intro g cap w3 hown hgrow hgb hgl; have F : Hid (Below B w2 w3 ∧ Kp (fun k => k = N ∨ V.ownBlock = some k) w2 w3 ∧ Moved w2 V (.slice (some ⟨g, 0, none⟩) (m + 1) cap)) := app_step hB2 hr2 hgrow hgb; have e0 := (F.out.1.cell (p := ⟨N, 11, none⟩) hNB).trans d11; have fe0 := (F.out.1.frozen (p := ⟨N, 11, none⟩) hNB).trans (hb2.2 11); clear hgrow hgb hgl; have HO : Hid _ := hown; clear hown))
    all_goals
      have HF : Hid (Kp (fun j => j = N ∨ (c 11).ownBlock = some j) w (w3.setCell ⟨N, 11, none⟩ (.slice (some ⟨g, 0, none⟩) (m + 1) cap)) ∧ ∃ v ms', Blk (w3.setCell ⟨N, 11, none⟩ (.slice (some ⟨g, 0, none⟩) (m + 1) cap)) N 209 (upd c 11 v) ∧ (w3.setCell ⟨N, 11, none⟩ (.slice (some ⟨g, 0, none⟩) (m + 1) cap)).ownsRow B 187 5 v (m + 1) ms' ∧ Moved w (c 11) v) := by
        refine ⟨(hK2.trans (by rw [← HV.out]; exact F.out.2.1)).setCell (p := ⟨N, 11, none⟩) (fun _ => .inl rfl) _, _, _, (hb2.below F.out.1 hNB).set 11 (by omega) _, ownsRow_setCell_below HO.out (a := ⟨N, 11, none⟩) hNB _, ?_⟩
        rw [← HV.out]
        rcases F.out.2.2 with e | ⟨g', e1, e2⟩
        · exact .inl e
        · exact .inr ⟨g', e1, Nat.le_trans HS2.out e2⟩
      clear HO F e0 fe0
      go_wp2
      go_meet
      case rel => exact HF.out
  case rest =>
    obtain ⟨hKc, v, ms', hbc, hrc, hMc⟩ := hcut
    clear hb2 hx2 hK2 d11 p0 p1 p2 p3 p4 hr2
    have HRC : Hid (wc.ownsRow B 187 5 v (m + 1) ms') := hrc
    have HMC : Hid (Moved w (c 11) v) := hMc
    clear hrc hMc
    go_wp2_with fail
    refine (boolStore ⟨N, 141, none⟩ _ wc (hbc.1 141 (by omega)) (hbc.2 141)).mono ?_
    rintro e w5 ⟨rfl, q, rfl⟩
    go_wp2
    go_end0
    exact ⟨rfl, (hKc.drewN q).setCell (p := ⟨N, 141, none⟩) (fun _ => .inl rfl) _, v, ms', (hbc.drewN q).set 141 (by omega) _, ownsRow_setCell_below (w := wc.drewN q) HRC.out (a := ⟨N, 141, none⟩) hNB _, HMC.out⟩

theorem m_frame (b : Nat) (w : World) : Sem.run Ybaz.prog (method 407 34 (.pointer (some ⟨b, 0, none⟩)) "example.com/latchwork/latchwork/lock.frameTxn") w = .ok (183, .pointer (some ⟨b, 0, none⟩)) w := by kernel_rfl
attribute [local go_sem] m_frame

set_option maxRecDepth 100000 in
theorem frameTxn_any (v : Value) (w : World) : Calls Ybaz.prog 183 #[v] w fun e w' => e = .returned v ∧ w' = w := by
  go_enter Ybaz.func183, Ybaz.ntmps183
  go_wp2
  go_ret
  exact ⟨rfl, rfl⟩

set_option maxRecDepth 100000 in
set_option maxHeartbeats 1000000 in
/-- The frame keeps a termination. -/
theorem fterm_any (B N m b : Nat) (c : Nat → Value) (ms : List Value) (w : World) (hb : Blk w N 209 c) (hNB : N < B) (hsz : B ≤ w.heap.size) (hrow : w.ownsRow B 187 5 (c 11) m ms) (hm : m ≤ 1000) (h5 : c 5 = .int .i32 0) (b0 : w.cell? ⟨b, 0, none⟩ = some (.int .u64 0)) (hbN : b ≠ N) :
    Calls Ybaz.prog 48 #[.pointer (some ⟨N, 5, none⟩), ptr b] w fun e w' => e = .returned (.tuple #[]) ∧ MoveK w B N c m w' := by
  have c5 : w.cell? ⟨N, 5, none⟩ = some (.int .i32 0) := (hb.1 5 (by omega)).trans (by rw [h5])
  have f5 := hb.2 5
  have hN := hb.lt (by omega)
  have hbl : b < w.heap.size := by
    by_cases e : b < w.heap.size
    · exact e
    · simp [World.cell?, Array.getElem?_eq_none (Nat.le_of_not_lt e)] at b0
  have hb1 := hb.set 5 (by omega) (.int .i32 1)
  have hr1 : (w.setCell ⟨N, 5, none⟩ (.int .i32 1)).ownsRow B 187 5 (upd c 5 (.int .i32 1) 11) m ms := by
    rw [upd_other c _ (by omega)]
    exact ownsRow_setCell_below hrow (a := ⟨N, 5, none⟩) hNB _
  have b1 : (w.setCell ⟨N, 5, none⟩ (.int .i32 1)).cell? ⟨b, 0, none⟩ = some (.int .u64 0) := (World.cell?_setCell_other _ _ _ _ (by simp)).trans b0
  have hK1 : Kp (fun j => j = N ∨ (c 11).ownBlock = some j) w (w.setCell ⟨N, 5, none⟩ (.int .i32 1)) := (Kp.refl (fun j => j = N ∨ (c 11).ownBlock = some j) w).setCell (p := ⟨N, 5, none⟩) (fun _ => .inl rfl) _
  have hs1 : B ≤ (w.setCell ⟨N, 5, none⟩ (.int .i32 1)).heap.size := by simpa using hsz
  have H1 : Hid (Blk (w.setCell ⟨N, 5, none⟩ (.int .i32 1)) N 209 (upd c 5 (.int .i32 1)) ∧ (w.setCell ⟨N, 5, none⟩ (.int .i32 1)).ownsRow B 187 5 (upd c 5 (.int .i32 1) 11) m ms) := ⟨hb1, hr1⟩
  clear hb hrow hb1 hr1
  unfold ptr
  go_enter_defers Ybaz.func48, Ybaz.ntmps48
  go_wp2_with (go_at_call 60; refine (lock_free muLib ⟨N, 5, none⟩ _ c5 f5).mono ?_; rintro e w' ⟨rfl, rfl⟩)
  refine (frameTxn_any _ _).mono ?_
  rintro e w1 ⟨rfl, hw1⟩
  rw [hw1]
  clear hw1 w1
  go_wp2_with fail
  refine (move_any B N m _ ms _ H1.out.1 hNB hs1 H1.out.2 hm).mono ?_
  rintro e w2 ⟨rfl, hK2, v, ms', hb2, hr2, hM2⟩
  rw [upd_other c _ (show (11 : Nat) ≠ 5 by omega)] at hK2 hM2
  have HF : Hid (MoveK w B N c m (w2.setCell ⟨N, 5, none⟩ (.int .i32 0))) := by
    refine ⟨(hK1.trans hK2).setCell (p := ⟨N, 5, none⟩) (fun _ => .inl rfl) _, v, ms', (hb2.set 5 (by omega) (.int .i32 0)).congr fun j hj => ?_, ownsRow_setCell_below hr2 (a := ⟨N, 5, none⟩) hNB _, ?_⟩
    · unfold upd
      by_cases e : j = 5
      · subst e; simp [h5]
      · simp [e]
    · rcases hM2 with e | ⟨g, e1, e2⟩
      · exact .inl e
      · exact .inr ⟨g, e1, by simpa using e2⟩
  have d5 := hb2.1 5 (by omega)
  have g5 := hb2.2 5
  clear hK2 hr2 hM2 hb2
  go_wp2_with fail
  refine leaves_cons (f := 61) (args := #[.pointer (some ⟨N, 5, none⟩)]) (by simp) (by simp [go_sem]) ?_
  refine (unlock_deferred muLib ⟨N, 5, none⟩ .returning _ ?_ ?_).mono ?_
  · exact d5
  · exact g5
  rintro e u' w'' ⟨rfl, rfl, rfl⟩
  exact ⟨_, results_none rfl _ _ _, rfl, HF.out⟩
end Go.Proofs.YbulkbpdqGreat
