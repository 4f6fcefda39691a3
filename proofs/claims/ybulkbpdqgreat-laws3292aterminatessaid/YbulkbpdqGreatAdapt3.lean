import Derived.Test.YbulkbpdqGreatAdapt2
import Derived.LaidEqlPtr
namespace Go.Proofs.YbulkbpdqGreat
open Go.ChangeShapes Go.WideShapes Go.ChangeAt Go.RowKit Go.MuLone
set_option linter.unusedVariables false

set_option maxRecDepth 100000 in
set_option maxHeartbeats 1000000 in
theorem init_any (N : Nat) (c : Nat → Value) (st : ByteArray) (w : World) (hb : Blk w N 209 c) :
    Calls Ybaz.prog 25 #[.pointer (some ⟨N, 0, none⟩), .string st] w fun e w' => e = .returned (.tuple #[]) ∧ Kp (fun j => j = N) w w' ∧ ∃ m1 m2, Blk w' N 209 (upd (upd (upd c 2 (.string st)) 3 m1) 4 m2) := by
  have hN := hb.lt (by omega)
  have c2 := hb.1 2 (by omega)
  have f2 := hb.2 2
  have c3 := hb.1 3 (by omega)
  have f3 := hb.2 3
  have c4 := hb.1 4 (by omega)
  have f4 := hb.2 4
  have hmm := @run_makeMap Ybaz.prog
  have HR : Hid (Kp (fun j => j = N) w (((((w.setCell ⟨N, 2, none⟩ (.string st)).setCell ⟨N, 3, none⟩ (.map (some w.heap.size))).setCell ⟨N, 4, none⟩ (.map (some (w.heap.size + 1)))).alloc (.map #[] 0)).alloc (.map #[] 0)) ∧ Blk (((((w.setCell ⟨N, 2, none⟩ (.string st)).setCell ⟨N, 3, none⟩ (.map (some w.heap.size))).setCell ⟨N, 4, none⟩ (.map (some (w.heap.size + 1)))).alloc (.map #[] 0)).alloc (.map #[] 0)) N 209 (upd (upd (upd c 2 (.string st)) 3 (.map (some w.heap.size))) 4 (.map (some (w.heap.size + 1))))) :=
    ⟨(((((Kp.refl (fun j => j = N) w).setCell (p := ⟨N, 2, none⟩) (fun _ => rfl) _).setCell (p := ⟨N, 3, none⟩) (fun _ => rfl) _).setCell (p := ⟨N, 4, none⟩) (fun _ => rfl) _).alloc _).alloc _, ((((hb.set 2 (by omega) _).set 3 (by omega) _).set 4 (by omega) _).alloc (by simpa using hN) _).alloc (by simp; omega) _⟩
  go_enter Ybaz.func25, Ybaz.ntmps25
  go_wp2
  go_end0
  exact ⟨rfl, HR.out.1, _, _, HR.out.2⟩

set_option maxRecDepth 100000 in
set_option maxHeartbeats 1000000 in
theorem new_any (st : ByteArray) (w : World) :
    Calls Ybaz.prog 8 #[.string st] w fun e w' => e = .returned (.pointer (some ⟨w.heap.size, 0, none⟩)) ∧ Below w.heap.size w w' ∧ ∃ c, Blk w' w.heap.size 209 c ∧ c 2 = .string st ∧ c 5 = .int .i32 0 ∧ c 7 = .slice none 0 0 ∧ c 11 = .slice none 0 0 ∧ c 206 = .slice none 0 0 := by
  have hz : Ybaz.zeroCells79.size = 209 := by kernel_rfl
  have hb := Blk.fresh w Ybaz.zeroCells79 79
  rw [hz] at hb
  have q5 : Ybaz.zeroCells79.getD 5 undef = .int .i32 0 := by kernel_rfl
  have q7 : Ybaz.zeroCells79.getD 7 undef = .slice none 0 0 := by kernel_rfl
  have q11 : Ybaz.zeroCells79.getD 11 undef = .slice none 0 0 := by kernel_rfl
  have q206 : Ybaz.zeroCells79.getD 206 undef = .slice none 0 0 := by kernel_rfl
  have hB0 : Below w.heap.size w (w.alloc (.cells Ybaz.zeroCells79 79)) := (Below.refl _ w).alloc (Nat.le_refl _) _
  have hs0 : w.heap.size ≤ (w.alloc (.cells Ybaz.zeroCells79 79)).heap.size := by simp
  go_enter Ybaz.func8, Ybaz.ntmps8
  go_wp2_with fail
  refine (init_any w.heap.size _ st _ hb).mono ?_
  rintro e w2 ⟨rfl, hK, m1, m2, hb2⟩
  have HR : Hid (Below w.heap.size w w2 ∧ ∃ c, Blk w2 w.heap.size 209 c ∧ c 2 = .string st ∧ c 5 = .int .i32 0 ∧ c 7 = .slice none 0 0 ∧ c 11 = .slice none 0 0 ∧ c 206 = .slice none 0 0) :=
    ⟨hB0.trans (hK.below hs0 (fun k hk h => by omega)), _, hb2, rfl, q5, q7, q11, q206⟩
  clear hb hb2 hK q5 q7 q11 q206 hB0 hs0 hz
  go_wp2_with fail
  go_ret
  exact ⟨rfl, HR.out⟩

theorem ad_fresh (w : World) (cm cy sw : Int) (tt : ByteArray) : Blk (w.alloc (.cells #[.int .i64 cm, .int .i64 cy, .string tt, .int .u64 sw, .int .u64 0, .slice none 0 0] 88)) w.heap.size 6 (adC cm cy tt sw) :=
  (Blk.fresh w #[.int .i64 cm, .int .i64 cy, .string tt, .int .u64 sw, .int .u64 0, .slice none 0 0] 88).congr fun j hj => by
    have hj6 : j < 6 := by simpa using hj
    rcases (show j = 0 ∨ j = 1 ∨ j = 2 ∨ j = 3 ∨ j = 4 ∨ j = 5 from by omega) with rfl | rfl | rfl | rfl | rfl | rfl <;> rfl

theorem Ybaz.info88 : ∃ j, Ybaz.prog.info? 88 = some j := by
  cases h : Ybaz.prog.info? 88 with
  | none => have h2 : (Ybaz.prog.info? 88).isSome = true := by kernel_rfl
            rw [h] at h2; cases h2
  | some j => exact ⟨j, rfl⟩
theorem neq_ptr (a : Addr) (w : World) : Sem.run Ybaz.prog (binOp .neq 77 (.pointer (some a)) (.pointer (some a))) w = .ok (.bool false) w := by
  obtain ⟨j, hj⟩ := Ybaz.info88
  have h : ∀ d : Nat, (Op.equalIn (d + 1) 77 (.pointer (some a)) (.pointer (some a))).run Ybaz.prog w = .ok true w := fun d => by
    simp [Op.equalIn, run_underlying Ybaz.underlying77, sizeOf, typeInfo, hj, run_sameAddr_same]
  simp only [binOp]
  simp [Op.equal, Op.maxDepth, h 9999]
attribute [local go_sem] neq_ptr

set_option maxRecDepth 100000 in
set_option maxHeartbeats 4000000 in
/-- The law's walk. -/
theorem adapts_walk (fa ta : Bool) (sw cm cy : Int) (w : World) :
    Calls Ybaz.prog 4 #[.bool fa, .bool ta, .int .u64 sw, .int .i64 cm, .int .i64 cy] w fun e w' => e = .returned (.bool true) ∧ Below w.heap.size w w' := by
  cases fa with
  | true =>
    cases ta with
    | true =>
      go_enter Ybaz.func4, Ybaz.ntmps4
      go_wp2_with fail
      refine (new_any _ w).mono ?_
      rintro e w1 ⟨rfl, hB1, c, hb, h2, h5, h7, h11, h206⟩
      have hN1 := hb.lt (by omega)
      have c208 := hb.1 208 (by omega)
      have f208 := hb.2 208
      have hd := ad_fresh (w1.setCell ⟨w.heap.size, 208, none⟩ (.pointer (some ⟨w1.heap.size, 0, none⟩))) cm cy sw ⟨#[97, 103, 103, 114, 101, 115, 115, 105, 118, 101]⟩
      rw [World.size_setCell] at hd
      have hb1 := (hb.set 208 (by omega) (.pointer (some ⟨w1.heap.size, 0, none⟩))).alloc (by simpa using hN1) (.cells #[.int .i64 cm, .int .i64 cy, .string ⟨#[97, 103, 103, 114, 101, 115, 115, 105, 118, 101]⟩, .int .u64 sw, .int .u64 0, .slice none 0 0] 88)
      have hB2 : Below w.heap.size w ((w1.setCell ⟨w.heap.size, 208, none⟩ (.pointer (some ⟨w1.heap.size, 0, none⟩))).alloc (.cells #[.int .i64 cm, .int .i64 cy, .string ⟨#[97, 103, 103, 114, 101, 115, 115, 105, 118, 101]⟩, .int .u64 sw, .int .u64 0, .slice none 0 0] 88)) := (hB1.setCell (Nat.le_refl _) _).alloc (by simp; omega) _
      go_wp2_with fail
      obtain ⟨D, hD⟩ : ∃ D, D = w1.heap.size := ⟨_, rfl⟩
      obtain ⟨N, hN⟩ : ∃ N, N = w.heap.size := ⟨_, rfl⟩
      rw [← hD, ← hN] at hd hb1
      rw [← hN] at hB2
      rw [← hD, ← hN]
      have hDN : D ≠ N := by omega
      have HN : Hid (N = w.heap.size) := hN
      have HD : Hid (N < D) := by show N < D; omega
      rw [← hD] at hB2
      generalize World.alloc _ _ = w2 at hd hb1 hB2 ⊢
      clear hD hb c208 f208 hB1 hN1 hN
      refine (settle_any N D _ true true cm cy sw w2 hb1 hd hDN h2 h5 h7 h11 h206 rfl).mono ?_
      rintro e w3 ⟨rfl, hK, hd3, c', hb3, q2, q208⟩
      have HF : Hid (Below w.heap.size w w3) := by
        rw [← HN.out]
        exact hB2.trans (hK.below (by have := hB2.size; have := HN.out; omega) (fun k hk h => by have := HD.out; omega))
      have s208 : w3.cell? ⟨N, 208, none⟩ = some (.pointer (some ⟨D, 0, none⟩)) := (hb3.1 208 (by omega)).trans (by rw [q208])
      have s2 : w3.cell? ⟨N, 2, none⟩ = some (.string ⟨#[97, 103, 103, 114, 101, 115, 115, 105, 118, 101]⟩) := (hb3.1 2 (by omega)).trans (by rw [q2]; rfl)
      have t0 : w3.cell? ⟨D, 0, none⟩ = some (.int .i64 cm) := hd3.1 0 (by omega)
      have t1 : w3.cell? ⟨D, 1, none⟩ = some (.int .i64 cy) := hd3.1 1 (by omega)
      have t2 : w3.cell? ⟨D, 2, none⟩ = some (.string ⟨#[97, 103, 103, 114, 101, 115, 115, 105, 118, 101]⟩) := hd3.1 2 (by omega)
      have t3 : w3.cell? ⟨D, 3, none⟩ = some (.int .u64 sw) := hd3.1 3 (by omega)
      clear hK hd3 hb3 hd hb1 hB2
      go_wp2
      go_ret
      exact ⟨rfl, HF.out⟩
    | false =>
      go_enter Ybaz.func4, Ybaz.ntmps4
      go_wp2_with fail
      refine (new_any _ w).mono ?_
      rintro e w1 ⟨rfl, hB1, c, hb, h2, h5, h7, h11, h206⟩
      have hN1 := hb.lt (by omega)
      have c208 := hb.1 208 (by omega)
      have f208 := hb.2 208
      have hd := ad_fresh (w1.setCell ⟨w.heap.size, 208, none⟩ (.pointer (some ⟨w1.heap.size, 0, none⟩))) cm cy sw ⟨#[99, 111, 110, 115, 101, 114, 118, 97, 116, 105, 118, 101]⟩
      rw [World.size_setCell] at hd
      have hb1 := (hb.set 208 (by omega) (.pointer (some ⟨w1.heap.size, 0, none⟩))).alloc (by simpa using hN1) (.cells #[.int .i64 cm, .int .i64 cy, .string ⟨#[99, 111, 110, 115, 101, 114, 118, 97, 116, 105, 118, 101]⟩, .int .u64 sw, .int .u64 0, .slice none 0 0] 88)
      have hB2 : Below w.heap.size w ((w1.setCell ⟨w.heap.size, 208, none⟩ (.pointer (some ⟨w1.heap.size, 0, none⟩))).alloc (.cells #[.int .i64 cm, .int .i64 cy, .string ⟨#[99, 111, 110, 115, 101, 114, 118, 97, 116, 105, 118, 101]⟩, .int .u64 sw, .int .u64 0, .slice none 0 0] 88)) := (hB1.setCell (Nat.le_refl _) _).alloc (by simp; omega) _
      go_wp2_with fail
      obtain ⟨D, hD⟩ : ∃ D, D = w1.heap.size := ⟨_, rfl⟩
      obtain ⟨N, hN⟩ : ∃ N, N = w.heap.size := ⟨_, rfl⟩
      rw [← hD, ← hN] at hd hb1
      rw [← hN] at hB2
      rw [← hD, ← hN]
      have hDN : D ≠ N := by omega
      have HN : Hid (N = w.heap.size) := hN
      have HD : Hid (N < D) := by show N < D; omega
      rw [← hD] at hB2
      generalize World.alloc _ _ = w2 at hd hb1 hB2 ⊢
      clear hD hb c208 f208 hB1 hN1 hN
      refine (settle_any N D _ true false cm cy sw w2 hb1 hd hDN h2 h5 h7 h11 h206 rfl).mono ?_
      rintro e w3 ⟨rfl, hK, hd3, c', hb3, q2, q208⟩
      have HF : Hid (Below w.heap.size w w3) := by
        rw [← HN.out]
        exact hB2.trans (hK.below (by have := hB2.size; have := HN.out; omega) (fun k hk h => by have := HD.out; omega))
      have s208 : w3.cell? ⟨N, 208, none⟩ = some (.pointer (some ⟨D, 0, none⟩)) := (hb3.1 208 (by omega)).trans (by rw [q208])
      have s2 : w3.cell? ⟨N, 2, none⟩ = some (.string ⟨#[99, 111, 110, 115, 101, 114, 118, 97, 116, 105, 118, 101]⟩) := (hb3.1 2 (by omega)).trans (by rw [q2]; rfl)
      have t0 : w3.cell? ⟨D, 0, none⟩ = some (.int .i64 cm) := hd3.1 0 (by omega)
      have t1 : w3.cell? ⟨D, 1, none⟩ = some (.int .i64 cy) := hd3.1 1 (by omega)
      have t2 : w3.cell? ⟨D, 2, none⟩ = some (.string ⟨#[99, 111, 110, 115, 101, 114, 118, 97, 116, 105, 118, 101]⟩) := hd3.1 2 (by omega)
      have t3 : w3.cell? ⟨D, 3, none⟩ = some (.int .u64 (IntKind.u64.wrap (sw + 1))) := hd3.1 3 (by omega)
      clear hK hd3 hb3 hd hb1 hB2
      go_wp2
      go_ret
      exact ⟨rfl, HF.out⟩
  | false =>
    cases ta with
    | true =>
      go_enter Ybaz.func4, Ybaz.ntmps4
      go_wp2_with fail
      refine (new_any _ w).mono ?_
      rintro e w1 ⟨rfl, hB1, c, hb, h2, h5, h7, h11, h206⟩
      have hN1 := hb.lt (by omega)
      have c208 := hb.1 208 (by omega)
      have f208 := hb.2 208
      have hd := ad_fresh (w1.setCell ⟨w.heap.size, 208, none⟩ (.pointer (some ⟨w1.heap.size, 0, none⟩))) cm cy sw ⟨#[97, 103, 103, 114, 101, 115, 115, 105, 118, 101]⟩
      rw [World.size_setCell] at hd
      have hb1 := (hb.set 208 (by omega) (.pointer (some ⟨w1.heap.size, 0, none⟩))).alloc (by simpa using hN1) (.cells #[.int .i64 cm, .int .i64 cy, .string ⟨#[97, 103, 103, 114, 101, 115, 115, 105, 118, 101]⟩, .int .u64 sw, .int .u64 0, .slice none 0 0] 88)
      have hB2 : Below w.heap.size w ((w1.setCell ⟨w.heap.size, 208, none⟩ (.pointer (some ⟨w1.heap.size, 0, none⟩))).alloc (.cells #[.int .i64 cm, .int .i64 cy, .string ⟨#[97, 103, 103, 114, 101, 115, 115, 105, 118, 101]⟩, .int .u64 sw, .int .u64 0, .slice none 0 0] 88)) := (hB1.setCell (Nat.le_refl _) _).alloc (by simp; omega) _
      go_wp2_with fail
      obtain ⟨D, hD⟩ : ∃ D, D = w1.heap.size := ⟨_, rfl⟩
      obtain ⟨N, hN⟩ : ∃ N, N = w.heap.size := ⟨_, rfl⟩
      rw [← hD, ← hN] at hd hb1
      rw [← hN] at hB2
      rw [← hD, ← hN]
      have hDN : D ≠ N := by omega
      have HN : Hid (N = w.heap.size) := hN
      have HD : Hid (N < D) := by show N < D; omega
      rw [← hD] at hB2
      generalize World.alloc _ _ = w2 at hd hb1 hB2 ⊢
      clear hD hb c208 f208 hB1 hN1 hN
      refine (settle_any N D _ false true cm cy sw w2 hb1 hd hDN h2 h5 h7 h11 h206 rfl).mono ?_
      rintro e w3 ⟨rfl, hK, hd3, c', hb3, q2, q208⟩
      have HF : Hid (Below w.heap.size w w3) := by
        rw [← HN.out]
        exact hB2.trans (hK.below (by have := hB2.size; have := HN.out; omega) (fun k hk h => by have := HD.out; omega))
      have s208 : w3.cell? ⟨N, 208, none⟩ = some (.pointer (some ⟨D, 0, none⟩)) := (hb3.1 208 (by omega)).trans (by rw [q208])
      have s2 : w3.cell? ⟨N, 2, none⟩ = some (.string ⟨#[97, 103, 103, 114, 101, 115, 115, 105, 118, 101]⟩) := (hb3.1 2 (by omega)).trans (by rw [q2]; rfl)
      have t0 : w3.cell? ⟨D, 0, none⟩ = some (.int .i64 cm) := hd3.1 0 (by omega)
      have t1 : w3.cell? ⟨D, 1, none⟩ = some (.int .i64 cy) := hd3.1 1 (by omega)
      have t2 : w3.cell? ⟨D, 2, none⟩ = some (.string ⟨#[97, 103, 103, 114, 101, 115, 115, 105, 118, 101]⟩) := hd3.1 2 (by omega)
      have t3 : w3.cell? ⟨D, 3, none⟩ = some (.int .u64 (IntKind.u64.wrap (sw + 1))) := hd3.1 3 (by omega)
      clear hK hd3 hb3 hd hb1 hB2
      go_wp2
      go_ret
      exact ⟨rfl, HF.out⟩
    | false =>
      go_enter Ybaz.func4, Ybaz.ntmps4
      go_wp2_with fail
      refine (new_any _ w).mono ?_
      rintro e w1 ⟨rfl, hB1, c, hb, h2, h5, h7, h11, h206⟩
      have hN1 := hb.lt (by omega)
      have c208 := hb.1 208 (by omega)
      have f208 := hb.2 208
      have hd := ad_fresh (w1.setCell ⟨w.heap.size, 208, none⟩ (.pointer (some ⟨w1.heap.size, 0, none⟩))) cm cy sw ⟨#[99, 111, 110, 115, 101, 114, 118, 97, 116, 105, 118, 101]⟩
      rw [World.size_setCell] at hd
      have hb1 := (hb.set 208 (by omega) (.pointer (some ⟨w1.heap.size, 0, none⟩))).alloc (by simpa using hN1) (.cells #[.int .i64 cm, .int .i64 cy, .string ⟨#[99, 111, 110, 115, 101, 114, 118, 97, 116, 105, 118, 101]⟩, .int .u64 sw, .int .u64 0, .slice none 0 0] 88)
      have hB2 : Below w.heap.size w ((w1.setCell ⟨w.heap.size, 208, none⟩ (.pointer (some ⟨w1.heap.size, 0, none⟩))).alloc (.cells #[.int .i64 cm, .int .i64 cy, .string ⟨#[99, 111, 110, 115, 101, 114, 118, 97, 116, 105, 118, 101]⟩, .int .u64 sw, .int .u64 0, .slice none 0 0] 88)) := (hB1.setCell (Nat.le_refl _) _).alloc (by simp; omega) _
      go_wp2_with fail
      obtain ⟨D, hD⟩ : ∃ D, D = w1.heap.size := ⟨_, rfl⟩
      obtain ⟨N, hN⟩ : ∃ N, N = w.heap.size := ⟨_, rfl⟩
      rw [← hD, ← hN] at hd hb1
      rw [← hN] at hB2
      rw [← hD, ← hN]
      have hDN : D ≠ N := by omega
      have HN : Hid (N = w.heap.size) := hN
      have HD : Hid (N < D) := by show N < D; omega
      rw [← hD] at hB2
      generalize World.alloc _ _ = w2 at hd hb1 hB2 ⊢
      clear hD hb c208 f208 hB1 hN1 hN
      refine (settle_any N D _ false false cm cy sw w2 hb1 hd hDN h2 h5 h7 h11 h206 rfl).mono ?_
      rintro e w3 ⟨rfl, hK, hd3, c', hb3, q2, q208⟩
      have HF : Hid (Below w.heap.size w w3) := by
        rw [← HN.out]
        exact hB2.trans (hK.below (by have := hB2.size; have := HN.out; omega) (fun k hk h => by have := HD.out; omega))
      have s208 : w3.cell? ⟨N, 208, none⟩ = some (.pointer (some ⟨D, 0, none⟩)) := (hb3.1 208 (by omega)).trans (by rw [q208])
      have s2 : w3.cell? ⟨N, 2, none⟩ = some (.string ⟨#[99, 111, 110, 115, 101, 114, 118, 97, 116, 105, 118, 101]⟩) := (hb3.1 2 (by omega)).trans (by rw [q2]; rfl)
      have t0 : w3.cell? ⟨D, 0, none⟩ = some (.int .i64 cm) := hd3.1 0 (by omega)
      have t1 : w3.cell? ⟨D, 1, none⟩ = some (.int .i64 cy) := hd3.1 1 (by omega)
      have t2 : w3.cell? ⟨D, 2, none⟩ = some (.string ⟨#[99, 111, 110, 115, 101, 114, 118, 97, 116, 105, 118, 101]⟩) := hd3.1 2 (by omega)
      have t3 : w3.cell? ⟨D, 3, none⟩ = some (.int .u64 sw) := hd3.1 3 (by omega)
      clear hK hd3 hb3 hd hb1 hB2
      go_wp2
      go_ret
      exact ⟨rfl, HF.out⟩
end Go.Proofs.YbulkbpdqGreat
