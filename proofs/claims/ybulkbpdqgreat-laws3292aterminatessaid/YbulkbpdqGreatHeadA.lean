import Derived.Test.YbulkbpdqGreatSetC
namespace Go.Proofs.YbulkbpdqGreat
open Go.ChangeShapes Go.WideShapes Go.ChangeAt Go.RowKit
set_option linter.unusedVariables false

theorem empty_mapS (w : World) : MapF Value.string (w.alloc (.map #[] 0)) w.heap.size (fun _ => none) :=
  ⟨[], 0, by rw [heap_alloc_new]; rfl, (fun p hp => by cases hp), by simp, by simp, (fun k v => ⟨(fun e => by cases e), (fun ⟨n, hn⟩ => by cases hn)⟩)⟩

set_option maxRecDepth 100000 in
set_option maxHeartbeats 1000000 in
theorem init_full (N : Nat) (c : Nat → Value) (st : ByteArray) (w : World) (hb : Blk w N 209 c) :
    Calls Ybaz.prog 25 #[.pointer (some ⟨N, 0, none⟩), .string st] w fun e w' => e = .returned (.tuple #[]) ∧ Kp (fun j => j = N) w w' ∧ w'.heap.size = w.heap.size + 2 ∧ Blk w' N 209 (upd (upd (upd c 2 (.string st)) 3 (.map (some w.heap.size))) 4 (.map (some (w.heap.size + 1)))) ∧ MapF Value.string w' w.heap.size (fun _ => none) ∧ MapF Value.string w' (w.heap.size + 1) (fun _ => none) := by
  have hN := hb.lt (by omega)
  have c2 := hb.1 2 (by omega)
  have f2 := hb.2 2
  have c3 := hb.1 3 (by omega)
  have f3 := hb.2 3
  have c4 := hb.1 4 (by omega)
  have f4 := hb.2 4
  have hmm := @run_makeMap Ybaz.prog
  have HR : Hid (Kp (fun j => j = N) w (((((w.setCell ⟨N, 2, none⟩ (.string st)).setCell ⟨N, 3, none⟩ (.map (some w.heap.size))).setCell ⟨N, 4, none⟩ (.map (some (w.heap.size + 1)))).alloc (.map #[] 0)).alloc (.map #[] 0)) ∧ (((((w.setCell ⟨N, 2, none⟩ (.string st)).setCell ⟨N, 3, none⟩ (.map (some w.heap.size))).setCell ⟨N, 4, none⟩ (.map (some (w.heap.size + 1)))).alloc (.map #[] 0)).alloc (.map #[] 0)).heap.size = w.heap.size + 2 ∧ Blk (((((w.setCell ⟨N, 2, none⟩ (.string st)).setCell ⟨N, 3, none⟩ (.map (some w.heap.size))).setCell ⟨N, 4, none⟩ (.map (some (w.heap.size + 1)))).alloc (.map #[] 0)).alloc (.map #[] 0)) N 209 (upd (upd (upd c 2 (.string st)) 3 (.map (some w.heap.size))) 4 (.map (some (w.heap.size + 1)))) ∧ MapF Value.string (((((w.setCell ⟨N, 2, none⟩ (.string st)).setCell ⟨N, 3, none⟩ (.map (some w.heap.size))).setCell ⟨N, 4, none⟩ (.map (some (w.heap.size + 1)))).alloc (.map #[] 0)).alloc (.map #[] 0)) w.heap.size (fun _ => none) ∧ MapF Value.string (((((w.setCell ⟨N, 2, none⟩ (.string st)).setCell ⟨N, 3, none⟩ (.map (some w.heap.size))).setCell ⟨N, 4, none⟩ (.map (some (w.heap.size + 1)))).alloc (.map #[] 0)).alloc (.map #[] 0)) (w.heap.size + 1) (fun _ => none)) := by
    refine ⟨(((((Kp.refl (fun j => j = N) w).setCell (p := ⟨N, 2, none⟩) (fun _ => rfl) _).setCell (p := ⟨N, 3, none⟩) (fun _ => rfl) _).setCell (p := ⟨N, 4, none⟩) (fun _ => rfl) _).alloc _).alloc _, by simp, ((((hb.set 2 (by omega) _).set 3 (by omega) _).set 4 (by omega) _).alloc (by simpa using hN) _).alloc (by simp; omega) _, ?_, ?_⟩
    · have h1 := empty_mapS (((w.setCell ⟨N, 2, none⟩ (.string st)).setCell ⟨N, 3, none⟩ (.map (some w.heap.size))).setCell ⟨N, 4, none⟩ (.map (some (w.heap.size + 1))))
      simp only [World.size_setCell] at h1
      exact h1.block (Below.heap_alloc _ _ _ (by simp))
    · have h1 := empty_mapS ((((w.setCell ⟨N, 2, none⟩ (.string st)).setCell ⟨N, 3, none⟩ (.map (some w.heap.size))).setCell ⟨N, 4, none⟩ (.map (some (w.heap.size + 1)))).alloc (.map #[] 0))
      simp only [World.size_alloc, World.size_setCell] at h1
      exact h1
  go_enter Ybaz.func25, Ybaz.ntmps25
  go_wp2
  go_end0
  exact ⟨rfl, HR.out.1, HR.out.2.1, HR.out.2.2.1, HR.out.2.2.2.1, HR.out.2.2.2.2⟩

/-- What New gives. -/
structure NewAt (st : ByteArray) (w w' : World) (c : Nat → Value) : Prop where
  b : Below w.heap.size w w'
  sz : w'.heap.size = w.heap.size + 3
  q : Blk w' w.heap.size 209 c
  c2 : c 2 = .string st
  c3 : c 3 = .map (some (w.heap.size + 1))
  c4 : c 4 = .map (some (w.heap.size + 2))
  c5 : c 5 = .int .i32 0
  c7 : c 7 = .slice none 0 0
  c11 : c 11 = .slice none 0 0
  c206 : c 206 = .slice none 0 0
  c208 : c 208 = .pointer none
  mi : MapF Value.string w' (w.heap.size + 1) (fun _ => none)
  mv : MapF Value.string w' (w.heap.size + 2) (fun _ => none)

set_option maxRecDepth 100000 in
set_option maxHeartbeats 1000000 in
theorem new_full (st : ByteArray) (w : World) :
    Calls Ybaz.prog 8 #[.string st] w fun e w' => e = .returned (.pointer (some ⟨w.heap.size, 0, none⟩)) ∧ ∃ c, NewAt st w w' c := by
  have hz : Ybaz.zeroCells79.size = 209 := by kernel_rfl
  have hb := Blk.fresh w Ybaz.zeroCells79 79
  rw [hz] at hb
  have q5 : Ybaz.zeroCells79.getD 5 undef = .int .i32 0 := by kernel_rfl
  have q7 : Ybaz.zeroCells79.getD 7 undef = .slice none 0 0 := by kernel_rfl
  have q11 : Ybaz.zeroCells79.getD 11 undef = .slice none 0 0 := by kernel_rfl
  have q206 : Ybaz.zeroCells79.getD 206 undef = .slice none 0 0 := by kernel_rfl
  have q208 : Ybaz.zeroCells79.getD 208 undef = .pointer none := by kernel_rfl
  have hB0 : Below w.heap.size w (w.alloc (.cells Ybaz.zeroCells79 79)) := (Below.refl _ w).alloc (Nat.le_refl _) _
  have hs0 : w.heap.size ≤ (w.alloc (.cells Ybaz.zeroCells79 79)).heap.size := by simp
  go_enter Ybaz.func8, Ybaz.ntmps8
  go_wp2_with fail
  refine (init_full w.heap.size _ st _ hb).mono ?_
  rintro e w2 ⟨rfl, hK, hsz, hb2, hm1, hm2⟩
  rw [World.size_alloc] at hsz hb2 hm1 hm2
  have HR : Hid (∃ c, NewAt st w w2 c) :=
    ⟨_, hB0.trans (hK.below hs0 (fun k hk h => by omega)), by omega, hb2, rfl, rfl, rfl, q5, q7, q11, q206, q208, hm1, hm2⟩
  clear hb hb2 hK q5 q7 q11 q206 q208 hB0 hs0 hz hsz hm1 hm2
  go_wp2_with fail
  go_ret
  exact ⟨rfl, HR.out⟩
end Go.Proofs.YbulkbpdqGreat
