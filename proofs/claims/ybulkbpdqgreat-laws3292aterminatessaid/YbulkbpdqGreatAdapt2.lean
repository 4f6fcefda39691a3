import Derived.Test.YbulkbpdqGreatAdapt1
namespace Go.Proofs.YbulkbpdqGreat
open Go.ChangeShapes Go.WideShapes Go.ChangeAt Go.RowKit Go.MuLone
set_option linter.unusedVariables false

set_option maxRecDepth 100000 in
set_option maxHeartbeats 1000000 in
/-- No request waits: no deadlock is broken. -/
theorem breakDeadlock_none (N : Nat) (c : Nat → Value) (w : World) (hb : Blk w N 209 c) (h5 : c 5 = .int .i32 0) (h7 : c 7 = .slice none 0 0) :
    Calls Ybaz.prog 30 #[.pointer (some ⟨N, 0, none⟩)] w fun e w' => e = .returned (.bool false) ∧ Kp (fun j => j = N) w w' ∧ Blk w' N 209 c := by
  have hN := hb.lt (by omega)
  have hb2 := hb.alloc hN (.cells #[.pointer (some ⟨N, 0, none⟩)] 24)
  have hup : ∀ j, j < 209 → upd (upd c 5 (.int .i32 1)) 5 (.int .i32 0) j = c j := fun j _ => by
    unfold upd
    by_cases h : j = 5
    · rw [if_pos h, h, h5]
    · rw [if_neg h, if_neg h]
  go_enter Ybaz.func30, Ybaz.ntmps30
  go_wp2_with fail
  refine (frameLen_none N _ ((hb2.1 5 (by omega)).trans (by rw [h5])) (hb2.2 5) ((hb2.1 7 (by omega)).trans (by rw [h7]))).mono ?_
  rintro e w2 ⟨rfl, rfl⟩
  have HF : Hid (Kp (fun j => j = N) w (((w.alloc (.cells #[.pointer (some ⟨N, 0, none⟩)] 24)).setCell ⟨N, 5, none⟩ (.int .i32 1)).setCell ⟨N, 5, none⟩ (.int .i32 0)) ∧ Blk (((w.alloc (.cells #[.pointer (some ⟨N, 0, none⟩)] 24)).setCell ⟨N, 5, none⟩ (.int .i32 1)).setCell ⟨N, 5, none⟩ (.int .i32 0)) N 209 c) :=
    ⟨(((Kp.refl (fun j => j = N) w).alloc _).setCell (p := ⟨N, 5, none⟩) (fun _ => rfl) _).setCell (p := ⟨N, 5, none⟩) (fun _ => rfl) _, ((hb2.set 5 (by omega) (.int .i32 1)).set 5 (by omega) (.int .i32 0)).congr hup⟩
  generalize World.setCell (World.setCell _ _ _) _ _ = w3 at HF ⊢
  go_wp2_with fail
  go_ret
  exact ⟨rfl, HF.out⟩

/-- An adaptation's cells. -/
def adC (cm cy : Int) (tt : ByteArray) (sw : Int) : Nat → Value := fun j => if j = 0 then .int .i64 cm else if j = 1 then .int .i64 cy else if j = 2 then .string tt else if j = 3 then .int .u64 sw else if j = 4 then .int .u64 0 else .slice none 0 0

/-- The two states. -/
def stB : Bool → ByteArray
  | true => ⟨#[97, 103, 103, 114, 101, 115, 115, 105, 118, 101]⟩
  | false => ⟨#[99, 111, 110, 115, 101, 114, 118, 97, 116, 105, 118, 101]⟩

def Settled (N D : Nat) (fa ta : Bool) (cm cy sw : Int) (w w' : World) : Prop :=
  Kp (fun j => j = N ∨ j = D) w w' ∧ Blk w' D 6 (adC cm cy (stB ta) (if fa = ta then sw else IntKind.u64.wrap (sw + 1))) ∧ ∃ c', Blk w' N 209 c' ∧ c' 2 = .string (stB ta) ∧ c' 208 = .pointer (some ⟨D, 0, none⟩)

set_option maxRecDepth 100000 in
set_option maxHeartbeats 4000000 in
/-- 'settle' with nothing to terminate. -/
theorem settle_any (N D : Nat) (c : Nat → Value) (fa ta : Bool) (cm cy sw : Int) (w : World) (hb : Blk w N 209 c) (hd : Blk w D 6 (adC cm cy (stB ta) sw)) (hDN : D ≠ N)
    (h2 : c 2 = .string (stB fa)) (h5 : c 5 = .int .i32 0) (h7 : c 7 = .slice none 0 0) (h11 : c 11 = .slice none 0 0) (h206 : c 206 = .slice none 0 0) (h208 : c 208 = .pointer (some ⟨D, 0, none⟩)) :
    Calls Ybaz.prog 11 #[.pointer (some ⟨N, 0, none⟩)] w fun e w' => e = .returned (.tuple #[]) ∧ Settled N D fa ta cm cy sw w w' := by
  have hNw := hb.lt (by omega)
  have hDw := hd.lt (by omega)
  have c206 : w.cell? ⟨N, 206, none⟩ = some (.slice none 0 0) := (hb.1 206 (by omega)).trans (by rw [h206])
  cases fa with
  | true =>
    have c2 : w.cell? ⟨N, 2, none⟩ = some (.string ⟨#[97, 103, 103, 114, 101, 115, 115, 105, 118, 101]⟩) := (hb.1 2 (by omega)).trans (by rw [h2]; rfl)
    have f2 := hb.2 2
    have c208 : w.cell? ⟨N, 208, none⟩ = some (.pointer (some ⟨D, 0, none⟩)) := (hb.1 208 (by omega)).trans (by rw [h208])
    cases ta with
    | true =>
      have d2 : w.cell? ⟨D, 2, none⟩ = some (.string ⟨#[97, 103, 103, 114, 101, 115, 115, 105, 118, 101]⟩) := hd.1 2 (by omega)
      have HR : Hid (∀ q, Settled N D true true cm cy sw w (w.drewN q)) := fun q => ⟨(Kp.refl _ w).drewN q, by rw [if_pos rfl]; exact hd.drewN q, c, hb.drewN q, h2, h208⟩
      clear hb hd h2 h5 h7 h11 h206 h208
      go_enter Ybaz.func11, Ybaz.ntmps11
      go_wp2_with fail
      refine wp_loop_rounds 1 ?_
      rw [rounds_succ]
      go_wp2_with fail
      refine wp_loop_rounds 1 ?_
      rw [rounds_succ]
      go_wp2_with (go_at_call 12; refine (byAgeLen_none _).mono ?_; rintro e w' ⟨rfl, rfl⟩)
      go_quiet (fail)
      go_wp2
      go_end0
      exact ⟨rfl, HR.out _⟩
    | false =>
      have d2 : w.cell? ⟨D, 2, none⟩ = some (.string ⟨#[99, 111, 110, 115, 101, 114, 118, 97, 116, 105, 118, 101]⟩) := hd.1 2 (by omega)
      have d3 : w.cell? ⟨D, 3, none⟩ = some (.int .u64 sw) := hd.1 3 (by omega)
      have d3f := hd.2 3
      have hND : N ≠ D := Ne.symm hDN
      have HB : Hid (Blk w N 209 c) := hb
      have HD : Hid (Blk w D 6 (adC cm cy (stB false) sw)) := hd
      clear hb hd
      go_enter Ybaz.func11, Ybaz.ntmps11
      go_wp2_with fail
      refine wp_loop_rounds 1 ?_
      rw [rounds_succ]
      go_wp2_with fail
      refine wp_loop_rounds 1 ?_
      rw [rounds_succ]
      go_wp2_with (go_at_call 12; refine (byAgeLen_none _).mono ?_; intro e w' hw; obtain ⟨rfl, hw'⟩ := hw; have hw2 := hw'.symm; clear hw'; subst hw2)
      go_quiet (fail)
      go_wp2_with fail
      have hb3 := (HB.out.drewN nq).set 2 (by omega) (.string ⟨#[99, 111, 110, 115, 101, 114, 118, 97, 116, 105, 118, 101]⟩)
      have hd3 := (HD.out.drewN nq).setOther ⟨N, 2, none⟩ hDN (.string ⟨#[99, 111, 110, 115, 101, 114, 118, 97, 116, 105, 118, 101]⟩)
      have hb4 := hb3.setOther ⟨D, 3, none⟩ (Ne.symm hDN) (.int .u64 (IntKind.u64.wrap (sw + 1)))
      have hd4 := (hd3.set 3 (by omega) (.int .u64 (IntKind.u64.wrap (sw + 1)))).congr (d := adC cm cy ⟨#[99, 111, 110, 115, 101, 114, 118, 97, 116, 105, 118, 101]⟩ (IntKind.u64.wrap (sw + 1))) (fun j hj => by
        rcases (show j = 0 ∨ j = 1 ∨ j = 2 ∨ j = 3 ∨ j = 4 ∨ j = 5 from by omega) with rfl | rfl | rfl | rfl | rfl | rfl <;> rfl)
      have hK4 : Kp (fun j => j = N ∨ j = D) w (((w.drewN nq).setCell ⟨N, 2, none⟩ (.string ⟨#[99, 111, 110, 115, 101, 114, 118, 97, 116, 105, 118, 101]⟩)).setCell ⟨D, 3, none⟩ (.int .u64 (IntKind.u64.wrap (sw + 1)))) := (((Kp.refl _ w).drewN nq).setCell (p := ⟨N, 2, none⟩) (fun _ => .inl rfl) _).setCell (p := ⟨D, 3, none⟩) (fun _ => .inr rfl) _
      generalize World.setCell (World.setCell (w.drewN nq) _ _) _ _ = w5 at hb4 hd4 hK4 ⊢
      have e2 : w5.cell? ⟨N, 2, none⟩ = some (.string ⟨#[99, 111, 110, 115, 101, 114, 118, 97, 116, 105, 118, 101]⟩) := hb4.1 2 (by omega)
      have hN5 := hb4.lt (by omega)
      have HB4 : Hid (Blk w5 N 209 (upd c 2 (.string ⟨#[99, 111, 110, 115, 101, 114, 118, 97, 116, 105, 118, 101]⟩))) := hb4
      have HD4 : Hid (Blk w5 D 6 (adC cm cy ⟨#[99, 111, 110, 115, 101, 114, 118, 97, 116, 105, 118, 101]⟩ (IntKind.u64.wrap (sw + 1)))) := hd4
      clear hb3 hd3 hb4 hd4
      go_region_with (go_at_call 31; refine (changeState_first N _ ⟨#[99, 111, 110, 115, 101, 114, 118, 97, 116, 105, 118, 101]⟩ _ HB4.out.drew h11 h5).mono ?_; rintro e w6 ⟨rfl, hK6, v, hb6⟩; have HR : Hid (Settled N D true false cm cy sw w w6) := (⟨hK4.drew.trans (hK6.mono fun k h => .inl h), HD4.out.drew.kept hK6 (HD4.out.lt (by omega)) hDN, _, hb6, rfl, h208⟩); clear hK6 hb6)
      all_goals (go_wp2; go_end0; exact ⟨rfl, HR.out⟩)
  | false =>
    have c2 : w.cell? ⟨N, 2, none⟩ = some (.string ⟨#[99, 111, 110, 115, 101, 114, 118, 97, 116, 105, 118, 101]⟩) := (hb.1 2 (by omega)).trans (by rw [h2]; rfl)
    have HB : Hid (Blk w N 209 c) := hb
    have HD : Hid (Blk w D 6 (adC cm cy (stB ta) sw)) := hd
    have hND : N ≠ D := Ne.symm hDN
    clear hb hd
    go_enter Ybaz.func11, Ybaz.ntmps11
    go_wp2_with fail
    refine wp_loop_rounds 1 ?_
    rw [rounds_succ]
    go_wp2_with fail
    refine wp_loop_rounds 1 ?_
    rw [rounds_succ]
    go_wp2_with (go_at_call 12; refine (byAgeLen_none _).mono ?_; intro e w' hw; obtain ⟨rfl, hw'⟩ := hw; have hw2 := hw'.symm; clear hw'; subst hw2)
    refine (breakDeadlock_none N c w HB.out h5 h7).mono ?_
    rintro e w1 ⟨rfl, hK1, hb1⟩
    have HD1 : Hid (Blk w1 D 6 (adC cm cy (stB ta) sw)) := HD.out.kept hK1 hDw hDN
    have HB1 : Hid (Blk w1 N 209 c) := hb1
    have HK1 : Hid (Kp (fun j => j = N ∨ j = D) w w1) := hK1.mono (fun k h => .inl h)
    clear hK1 hb1
    have e2' : w1.cell? ⟨N, 2, none⟩ = some (.string ⟨#[99, 111, 110, 115, 101, 114, 118, 97, 116, 105, 118, 101]⟩) := (HB1.out.1 2 (by omega)).trans (by rw [h2]; rfl)
    have f2 := HB1.out.2 2
    have c208 : w1.cell? ⟨N, 208, none⟩ = some (.pointer (some ⟨D, 0, none⟩)) := (HB1.out.1 208 (by omega)).trans (by rw [h208])
    cases ta with
    | false =>
      have d2 : w1.cell? ⟨D, 2, none⟩ = some (.string ⟨#[99, 111, 110, 115, 101, 114, 118, 97, 116, 105, 118, 101]⟩) := HD1.out.1 2 (by omega)
      go_wp2_with fail
      go_quiet (fail)
      go_wp2
      go_end0
      exact ⟨rfl, HK1.out.drewN _, by rw [if_pos rfl]; exact HD1.out.drewN _, c, HB1.out.drewN _, h2, h208⟩
    | true =>
      have d2 : w1.cell? ⟨D, 2, none⟩ = some (.string ⟨#[97, 103, 103, 114, 101, 115, 115, 105, 118, 101]⟩) := HD1.out.1 2 (by omega)
      have d3 : w1.cell? ⟨D, 3, none⟩ = some (.int .u64 sw) := HD1.out.1 3 (by omega)
      have d3f := HD1.out.2 3
      go_wp2_with fail
      go_quiet (fail)
      go_wp2_with fail
      have hb3 := (HB1.out.drewN nq).set 2 (by omega) (.string ⟨#[97, 103, 103, 114, 101, 115, 115, 105, 118, 101]⟩)
      have hd3 := (HD1.out.drewN nq).setOther ⟨N, 2, none⟩ hDN (.string ⟨#[97, 103, 103, 114, 101, 115, 115, 105, 118, 101]⟩)
      have hb4 := hb3.setOther ⟨D, 3, none⟩ (Ne.symm hDN) (.int .u64 (IntKind.u64.wrap (sw + 1)))
      have hd4 := (hd3.set 3 (by omega) (.int .u64 (IntKind.u64.wrap (sw + 1)))).congr (d := adC cm cy ⟨#[97, 103, 103, 114, 101, 115, 115, 105, 118, 101]⟩ (IntKind.u64.wrap (sw + 1))) (fun j hj => by
        rcases (show j = 0 ∨ j = 1 ∨ j = 2 ∨ j = 3 ∨ j = 4 ∨ j = 5 from by omega) with rfl | rfl | rfl | rfl | rfl | rfl <;> rfl)
      have hK4 : Kp (fun j => j = N ∨ j = D) w (((w1.drewN nq).setCell ⟨N, 2, none⟩ (.string ⟨#[97, 103, 103, 114, 101, 115, 115, 105, 118, 101]⟩)).setCell ⟨D, 3, none⟩ (.int .u64 (IntKind.u64.wrap (sw + 1)))) := ((HK1.out.drewN nq).setCell (p := ⟨N, 2, none⟩) (fun _ => .inl rfl) _).setCell (p := ⟨D, 3, none⟩) (fun _ => .inr rfl) _
      generalize World.setCell (World.setCell (w1.drewN nq) _ _) _ _ = w5 at hb4 hd4 hK4 ⊢
      have e2 : w5.cell? ⟨N, 2, none⟩ = some (.string ⟨#[97, 103, 103, 114, 101, 115, 115, 105, 118, 101]⟩) := hb4.1 2 (by omega)
      have hN5 := hb4.lt (by omega)
      have HB4 : Hid (Blk w5 N 209 (upd c 2 (.string ⟨#[97, 103, 103, 114, 101, 115, 115, 105, 118, 101]⟩))) := hb4
      have HD4 : Hid (Blk w5 D 6 (adC cm cy ⟨#[97, 103, 103, 114, 101, 115, 115, 105, 118, 101]⟩ (IntKind.u64.wrap (sw + 1)))) := hd4
      clear hb3 hd3 hb4 hd4
      go_region_with (go_at_call 31; refine (changeState_first N _ ⟨#[97, 103, 103, 114, 101, 115, 115, 105, 118, 101]⟩ _ HB4.out.drew h11 h5).mono ?_; rintro e w6 ⟨rfl, hK6, v, hb6⟩; have HR : Hid (Settled N D false true cm cy sw w w6) := (⟨hK4.drew.trans (hK6.mono fun k h => .inl h), HD4.out.drew.kept hK6 (HD4.out.lt (by omega)) hDN, _, hb6, rfl, h208⟩); clear hK6 hb6)
      all_goals (go_wp2; go_end0; exact ⟨rfl, HR.out⟩)
end Go.Proofs.YbulkbpdqGreat
