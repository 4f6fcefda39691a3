import Derived.Test.YbulkbpcaNew
namespace Go.Proofs.Ybulkbpca
open Go.ChangeShapes Go.WideShapes Go.ChangeAt Go.RowKit
set_option linter.unusedVariables false

set_option maxRecDepth 100000 in
set_option maxHeartbeats 1000000 in
/-- fnv's 'Write': it stores some number. -/
theorem fnvWrite_any (B b n cap : Nat) (h : Int) (z : Nat → Int) (w : World) (hn : n ≤ maxLen) (hc : w.cell? ⟨B, 0, none⟩ = some (.int .u32 h)) (hf : w.frozen? ⟨B, 0, none⟩ = false)
    (hz : ∀ j, j < n → w.cell? ⟨b, j, none⟩ = some (.int .u8 (z j))) :
    Calls Yba.prog 108 #[.pointer (some ⟨B, 0, none⟩), .slice (some ⟨b, 0, none⟩) n cap] w fun e w' => e = .returned (.tuple #[.int .i64 n, .nilIface]) ∧ ∃ t : Int, w' = w.setCell ⟨B, 0, none⟩ (.int .u32 t) := by
  unfold maxLen at hn
  go_enter Yba.func108, Yba.ntmps108
  go_wp2
  go_loop [6, 14] (fun s i => ∃ (k : Nat) (t : Int), k ≤ n ∧ i = .int .i64 k ∧ s = .int .u32 t) (fun _ i => n - (intOf i).toNat)
  case atStart => exact ⟨0, h, by omega, rfl, rfl⟩
  case round =>
    obtain ⟨k, t, hk, rfl, rfl⟩ := hrel
    by_cases hlt : k < n
    · have hk0 : (0 : Int) ≤ (k : Int) := by omega
      have hk7 : (k : Int) < (n : Int) := by omega
      have hck := hz k hlt
      go_wp2
      go_round
      case rel => exact ⟨k + 1, _, by omega, by go_num, rfl⟩
      case measure => simp [intOf]; omega
    · obtain rfl : k = n := by omega
      go_wp2
      go_ret2
      exact ⟨rfl, t, rfl⟩

theorem method_write (a : Addr) (w : World) : Sem.run Yba.prog (method 310 111 (.pointer (some a)) "Write") w = .ok (108, .pointer (some a)) w := by kernel_rfl
theorem method_sum (a : Addr) (w : World) : Sem.run Yba.prog (method 310 111 (.pointer (some a)) "Sum32") w = .ok (107, .pointer (some a)) w := by kernel_rfl

/-- The bytes of '[]byte(k)' behind the block of the hash. -/
theorem tag_world (k : ByteArray) (w : World) (o : Obj) (c : Nat) (j : Nat) (hj : j < k.size) :
    ((w.alloc o).alloc (.cells (bytesRow k c) 5 ((bytesRow k c).size, (bytesRow k c).size + 1))).drew.cell? ⟨w.heap.size + 1, j, none⟩ = some (.int .u8 ((k.data.getD j 0).toNat : Int)) := by
  have h := World.cell?_alloc_mark (w.alloc o) (bytesRow k c) 5 ((bytesRow k c).size, (bytesRow k c).size + 1) j
  rw [World.size_alloc] at h
  rw [World.cell?_drew, h]
  have hj' : j < k.data.size := hj
  rw [bytesRow_at k c j hj']
  simp [Array.getElem?_eq_getElem hj']

set_option maxRecDepth 100000 in
set_option maxHeartbeats 1000000 in
/-- 'keyTag': some number; nothing that was there is turned. -/
theorem keyTag_any (k : ByteArray) (hk : k.size ≤ maxLen) (w : World) :
    Calls Yba.prog 15 #[.string k] w fun e w' => ∃ t : Int, e = .returned (.int .u32 t) ∧ Below w.heap.size w w' := by
  have hcv := fun w => run_bytes_of_string (P := Yba.prog) w 9 105 5 k Yba.underlying9 Yba.underlying105 Yba.underlying5
  have hmw := method_write
  have hms := method_sum
  go_enter Yba.func15, Yba.ntmps15
  have hz := fun o c j hj => tag_world k w o c j hj
  have hb0 : ∀ o, Blk ((w.alloc (.cells #[.int .u32 2166136261] 110)).alloc o).drew w.heap.size 1 (fun _ => .int .u32 2166136261) := fun o =>
    ((Blk.fresh w #[.int .u32 2166136261] 110).congr (fun j hj => by have h : j = 0 := (by simpa using hj); subst h; rfl)).alloc (by simp) o
  have hB0 : ∀ o t, Below w.heap.size w (((w.alloc (.cells #[.int .u32 2166136261] 110)).alloc o).drew.setCell ⟨w.heap.size, 0, none⟩ (.int .u32 t)) := fun o t =>
    ((((Below.refl _ _).alloc (Nat.le_refl _) _).alloc (by simp) _).drew).setCell (Nat.le_refl _) _
  go_wp2_with (go_at_call 24; go_in)
  refine (fnvWrite_any w.heap.size (w.heap.size + 1) k.size _ 2166136261 (fun j => ((k.data.getD j 0).toNat : Int)) _ hk ((hb0 _).1 0 (by omega)) ((hb0 _).2 0) (fun j hj => hz _ _ j hj)).mono ?_
  rintro e w' ⟨rfl, t, rfl⟩
  have hc1 := ((hb0 (.cells (bytesRow k (grownCap (w.alloc (.cells #[.int .u32 2166136261] 110)) k.size 0 5)) 5 ((bytesRow k (grownCap (w.alloc (.cells #[.int .u32 2166136261] 110)) k.size 0 5)).size, (bytesRow k (grownCap (w.alloc (.cells #[.int .u32 2166136261] 110)) k.size 0 5)).size + 1))).set 0 (by omega) (.int .u32 t)).1 0 (by omega)
  have hB1 := hB0 (.cells (bytesRow k (grownCap (w.alloc (.cells #[.int .u32 2166136261] 110)) k.size 0 5)) 5 ((bytesRow k (grownCap (w.alloc (.cells #[.int .u32 2166136261] 110)) k.size 0 5)).size, (bytesRow k (grownCap (w.alloc (.cells #[.int .u32 2166136261] 110)) k.size 0 5)).size + 1)) t
  generalize (World.drew _).setCell ⟨w.heap.size, 0, none⟩ (.int .u32 t) = w2 at hc1 hB1 ⊢
  go_wp2
  go_ret
  exact ⟨_, rfl, hB1⟩
end Go.Proofs.Ybulkbpca
