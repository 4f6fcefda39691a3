import Derived.Test.YbulkbpdqGreatLocks
import Derived.Test.YbulkbpdqGreatBlk
import Derived.Deep.RegionLaw
import Derived.Deep.RegionWith
import Derived.Deep.AppendLies
import Derived.Deep.DeepCutAuto
import Derived.Laws.LoneSync
import Derived.RegionCalls
namespace Go.Proofs.YbulkbpdqGreat
open Go.ChangeShapes Go.WideShapes Go.ChangeAt Go.RowKit Go.MuLone
set_option linter.unusedVariables false

set_option maxRecDepth 100000 in
theorem waitLen_none (a : Addr) (w : World) (h : w.cell? a = some (.slice none 0 0)) : Calls Ybaz.prog 73 #[.pointer (some a)] w fun e w' => e = .returned (.int .i64 0) ∧ w' = w := by
  go_enter Ybaz.func73, Ybaz.ntmps73
  go_wp2
  go_ret
  exact ⟨rfl, rfl⟩

set_option maxRecDepth 100000 in
theorem byAgeLen_none (w : World) : Calls Ybaz.prog 12 #[.slice none 0 0] w fun e w' => e = .returned (.int .i64 0) ∧ w' = w := by
  go_enter Ybaz.func12, Ybaz.ntmps12
  go_wp2
  go_ret
  exact ⟨rfl, rfl⟩

set_option maxRecDepth 100000 in
set_option maxHeartbeats 1000000 in
theorem frameLen_none (N : Nat) (w : World) (c5 : w.cell? ⟨N, 5, none⟩ = some (.int .i32 0)) (f5 : w.frozen? ⟨N, 5, none⟩ = false) (c7 : w.cell? ⟨N, 7, none⟩ = some (.slice none 0 0)) :
    Calls Ybaz.prog 49 #[.pointer (some ⟨N, 5, none⟩)] w fun e w' => e = .returned (.int .i64 0) ∧ w' = (w.setCell ⟨N, 5, none⟩ (.int .i32 1)).setCell ⟨N, 5, none⟩ (.int .i32 0) := by
  have d7 : (w.setCell ⟨N, 5, none⟩ (.int .i32 1)).cell? ⟨N, 7, none⟩ = some (.slice none 0 0) := (World.cell?_setCell_other _ _ _ _ (by simp)).trans c7
  go_enter_defers Ybaz.func49, Ybaz.ntmps49
  go_wp2_with (first
    | (go_at_call 60; refine (lock_free muLib ⟨N, 5, none⟩ _ c5 f5).mono ?_; rintro e w' ⟨rfl, rfl⟩)
    | (go_at_call 73; refine (waitLen_none ⟨N, 7, none⟩ _ d7).mono ?_; rintro e w' ⟨rfl, rfl⟩))
  refine leaves_cons (f := 61) (args := #[.pointer (some ⟨N, 5, none⟩)]) (by simp) (by simp [go_sem]) ?_
  refine (unlock_deferred muLib ⟨N, 5, none⟩ .returning _ ?_ ?_).mono ?_
  · exact World.cell?_setCell_same w ⟨N, 5, none⟩ (.int .i32 1) c5
  · simp [f5]
  rintro e u' w'' ⟨rfl, rfl, rfl⟩
  exact ⟨_, results_tmp rfl _ _ _, rfl, rfl⟩

set_option maxRecDepth 100000 in
theorem b32_true (w : World) : Calls Ybaz.prog 111 #[.bool true] w fun e w' => e = .returned (.int .u32 1) ∧ w' = w := by
  go_enter Ybaz.func111, Ybaz.ntmps111
  go_wp2
  go_ret
  exact ⟨rfl, rfl⟩

set_option maxRecDepth 100000 in
set_option maxHeartbeats 1000000 in
/-- '(*sync/atomic.Bool).Store(true)'. -/
theorem boolStore (a : Addr) (x : Value) (w : World) (hc : w.cell? a = some x) (hz : w.frozen? a = false) :
    Calls Ybaz.prog 86 #[.pointer (some a), .bool true] w fun e w' => e = .returned (.tuple #[]) ∧ ∃ q, w' = (w.drewN q).setCell a (.int .u32 1) := by
  have hc' : w.drew.cell? a = some x := by go_simp
  have hz' : w.drew.frozen? a = false := by go_simp
  have hst := run_call_store (P := Ybaz.prog) Ybaz.func110 (by kernel_rfl) (by kernel_rfl) (by kernel_rfl) (by kernel_rfl) (k := .u32) (y := 1) hc' hz'
  go_enter Ybaz.func86, Ybaz.ntmps86
  go_wp2_with fail
  go_region_calls
  all_goals (go_wp2; go_end0; exact ⟨rfl, 1, rfl⟩)

theorem Ybaz.infoMove : (Ybaz.prog.info? 187).map (fun i => (i.zero, i.size, i.bytes)) = some (some (.agg #[.int .u64 0, .string ⟨#[]⟩, .bool false, .bool false, .string ⟨#[]⟩]), 5, 56) := by kernel_rfl

theorem app_nil {w w1 : World} {o : Obj} {g : Nat} (hgrow : (w.alloc o).drew.grownBy w1 none) (hgb : (none : Option Nat) = some g ∨ g = w.heap.size + 1) : Below (w.heap.size + 1) (w.alloc o).drew w1 ∧ Below w.heap.size w w1 ∧ g = w.heap.size + 1 := by
  have hgb' : g = w.heap.size + 1 := by rcases hgb with h | h; cases h; exact h
  have hB : Below (w.heap.size + 1) (w.alloc o).drew w1 := (Below.refl _ _).grown hgrow (by simp) (fun k h => by cases h)
  exact ⟨hB, (((Below.refl _ _).alloc (Nat.le_refl _) _).drew).trans (hB.mono (by omega)), hgb'⟩

set_option maxRecDepth 100000 in
set_option maxHeartbeats 1000000 in
/-- The frame keeps its first move. -/
theorem move_first (N : Nat) (c : Nat → Value) (st : ByteArray) (w : World) (hb : Blk w N 209 c) (h11 : c 11 = .slice none 0 0) :
    Calls Ybaz.prog 62 #[.pointer (some ⟨N, 5, none⟩), .agg #[.int .u64 0, .string ⟨#[]⟩, .bool false, .bool false, .string st]] w fun e w' => e = .returned (.tuple #[]) ∧ Kp (fun j => j = N) w w' ∧ ∃ v, Blk w' N 209 (upd (upd c 11 v) 141 (.int .u32 1)) := by
  obtain ⟨i0, hi, hz0, hz1, hz2⟩ := info_parts Ybaz.infoMove
  have hN := hb.lt (by omega)
  go_enter Ybaz.func62, Ybaz.ntmps62
  go_wp2_with fail
  have hb2 := hb.alloc hN (.cells #[.int .u64 0, .string ⟨#[]⟩, .bool false, .bool false, .string st] 187)
  have hx2 := Blk.fresh w #[.int .u64 0, .string ⟨#[]⟩, .bool false, .bool false, .string st] 187
  have hK2 : Kp (fun j => j = N) w (w.alloc (.cells #[.int .u64 0, .string ⟨#[]⟩, .bool false, .bool false, .string st] 187)) := (Kp.refl _ w).alloc _
  have hN2 : N < (w.alloc (.cells #[.int .u64 0, .string ⟨#[]⟩, .bool false, .bool false, .string st] 187)).heap.size := by simp; omega
  have hP2 : w.heap.size < (w.alloc (.cells #[.int .u64 0, .string ⟨#[]⟩, .bool false, .bool false, .string st] 187)).heap.size := by simp
  obtain ⟨P, hP⟩ : ∃ P, P = w.heap.size := ⟨_, rfl⟩
  have hPN : P ≠ N := by omega
  rw [← hP] at hx2 hP2
  rw [← hP]
  generalize World.alloc w _ = w2 at hb2 hx2 hK2 hN2 hP2 ⊢
  clear hP
  have d11 : w2.cell? ⟨N, 11, none⟩ = some (.slice none 0 0) := (hb2.1 11 (by omega)).trans (by rw [h11])
  have p0 : w2.cell? ⟨P, 0, none⟩ = some (.int .u64 0) := hx2.1 0 (by simp)
  have p1 : w2.cell? ⟨P, 1, none⟩ = some (.string ⟨#[]⟩) := hx2.1 1 (by simp)
  have p2 : w2.cell? ⟨P, 2, none⟩ = some (.bool false) := hx2.1 2 (by simp)
  have p3 : w2.cell? ⟨P, 3, none⟩ = some (.bool false) := hx2.1 3 (by simp)
  have p4 : w2.cell? ⟨P, 4, none⟩ = some (.string st) := hx2.1 4 (by simp)
  go_cut [] from 4 to 13 (fun wx => Kp (fun j => j = N) w wx ∧ ∃ v, Blk wx N 209 (upd c 11 v))
  case first =>
    go_region_law ((refine step_append_lies _ (by rfl) _ _ 68 (by rfl) 0 187 i0 _ 5 56 Ybaz.underlying68 hi hz0 hz1 hz2 rfl (by omega) (.slice none 0 0) 0 [] (by rfl) (World.ownsRow_nil _ _ _ _) ⟨w2.heap.size, 0, none⟩ 1 1 [.int .u64 0, .string ⟨#[]⟩, .bool false, .bool false, .string st] (by rfl) (by rfl) (World.news_of_block (cs := #[.int .u64 0, .string ⟨#[]⟩, .bool false, .bool false, .string st]) (t := 187) (fr := (0, 0)) (heap_alloc_new w2 _)) (by simp [Value.oneCell']) (by omega) (by unfold maxLen; omega) (by omega) (by omega) (w2.heap.size + 1) (by simp) ?_; intro g cap w3 hown hgrow hgb hgl; have F : Hid _ := app_nil hgrow hgb; clear hgb; have e0 := (F.out.2.1.cell (p := ⟨N, 11, none⟩) hN2).trans d11; have fe0 := (F.out.2.1.frozen (p := ⟨N, 11, none⟩) hN2).trans (hb2.2 11)))
    all_goals
      have HF : Hid (Kp (fun j => j = N) w (w3.setCell ⟨N, 11, none⟩ (.slice (some ⟨g, 0, none⟩) 1 cap)) ∧ ∃ v, Blk (w3.setCell ⟨N, 11, none⟩ (.slice (some ⟨g, 0, none⟩) 1 cap)) N 209 (upd c 11 v)) := ⟨(hK2.then F.out.2.1).setCell (p := ⟨N, 11, none⟩) (fun _ => rfl) _, _, (hb2.below F.out.2.1 hN2).set 11 (by omega) _⟩
      clear hown hgrow hgl F
      go_wp2
      go_meet
      case rel => exact HF.out
  case rest =>
    obtain ⟨hKc, v, hbc⟩ := hcut
    clear hb2 hx2 hK2 d11 p0 p1 p2 p3 p4
    go_wp2_with fail
    refine (boolStore ⟨N, 141, none⟩ _ wc (hbc.1 141 (by omega)) (hbc.2 141)).mono ?_
    rintro e w5 ⟨rfl, q, rfl⟩
    go_wp2
    go_end0
    exact ⟨rfl, (hKc.drewN q).setCell (p := ⟨N, 141, none⟩) (fun _ => rfl) _, v, (hbc.drewN q).set 141 (by omega) _⟩

set_option maxRecDepth 100000 in
set_option maxHeartbeats 1000000 in
/-- The frame keeps a change of state. -/
theorem changeState_first (N : Nat) (c : Nat → Value) (st : ByteArray) (w : World) (hb : Blk w N 209 c) (h11 : c 11 = .slice none 0 0) (h5 : c 5 = .int .i32 0) :
    Calls Ybaz.prog 31 #[.pointer (some ⟨N, 5, none⟩), .string st] w fun e w' => e = .returned (.tuple #[]) ∧ Kp (fun j => j = N) w w' ∧ ∃ v, Blk w' N 209 (upd (upd (upd (upd c 5 (.int .i32 1)) 11 v) 141 (.int .u32 1)) 5 (.int .i32 0)) := by
  have c5 : w.cell? ⟨N, 5, none⟩ = some (.int .i32 0) := (hb.1 5 (by omega)).trans (by rw [h5])
  have f5 := hb.2 5
  have hb1 := hb.set 5 (by omega) (.int .i32 1)
  have hK1 : Kp (fun j => j = N) w (w.setCell ⟨N, 5, none⟩ (.int .i32 1)) := (Kp.refl (fun j => j = N) w).setCell (p := ⟨N, 5, none⟩) (fun _ => rfl) _
  go_enter_defers Ybaz.func31, Ybaz.ntmps31
  go_wp2_with (go_at_call 60; refine (lock_free muLib ⟨N, 5, none⟩ _ c5 f5).mono ?_; rintro e w' ⟨rfl, rfl⟩)
  refine (move_first N _ st _ hb1 h11).mono ?_
  rintro e w2 ⟨rfl, hK2, v, hb2⟩
  clear c5 f5 hb1
  go_wp2_with fail
  refine leaves_cons (f := 61) (args := #[.pointer (some ⟨N, 5, none⟩)]) (by simp) (by simp [go_sem]) ?_
  refine (unlock_deferred muLib ⟨N, 5, none⟩ .returning _ ?_ ?_).mono ?_
  · exact hb2.1 5 (by omega)
  · exact hb2.2 5
  rintro e u' w'' ⟨rfl, rfl, rfl⟩
  exact ⟨_, results_none rfl _ _ _, rfl, (hK1.trans hK2).setCell (p := ⟨N, 5, none⟩) (fun _ => rfl) _, v, hb2.set 5 (by omega) _⟩
end Go.Proofs.YbulkbpdqGreat
