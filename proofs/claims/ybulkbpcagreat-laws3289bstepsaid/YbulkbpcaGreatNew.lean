import Derived.Test.YbulkbpcaGreatBlk
namespace Go.Proofs.YbulkbpcaGreat
open Go.ChangeShapes Go.WideShapes Go.ChangeAt Go.RowKit
set_option linter.unusedVariables false

def nodeList (k a : ByteArray) (host : Value) (r : Int) : List Value :=
  [.string k, .string a, host, .bool false, .bool false, .bool false, .bool false, .int .i64 r, .map none, .slice none 0 0, .slice none 0 0, .pointer none, .int .u64 0, .slice none 0 0, .int .i64 0, .map none, .map none, .map none, .map none, .slice none 0 0, .slice none 0 0, .slice none 0 0, .slice none 0 0, .int .i64 0, .int .i64 0, .string ⟨#[]⟩, .string ⟨#[]⟩, .int .i64 0, .int .u64 0, .int .u64 0, .bool false, .bool false, .slice none 0 0, .slice none 0 0, .int .i64 0, .int .i64 0, .string ⟨#[]⟩, .string ⟨#[]⟩, .int .i64 0, .int .u64 0, .int .u64 0, .bool false, .bool false, .string ⟨#[]⟩, .string ⟨#[]⟩, .int .u64 0, .bool false, .int .i64 0, .int .i64 0, .string ⟨#[]⟩, .string ⟨#[]⟩, .int .i64 0, .int .i64 0, .slice none 0 0, .map none, .map none, .map none, .int .i64 0, .map none, .int .u64 0, .int .u64 0, .bool false, .bool false, .int .i64 0, .int .i64 0, .int .i64 0]

def roomList (k a : ByteArray) (host : Value) (r : Int) : List Value :=
  nodeList k a host r ++ (List.replicate 108 (.string ⟨#[]⟩) ++ (List.replicate 36 (.int .u32 0) ++ (List.replicate 32 (.string ⟨#[]⟩) ++ List.replicate 16 (.int .u32 0))))

def nodeCells (k a : ByteArray) (host : Value) (r : Int) : Array Value := (nodeList k a host r).toArray
def roomCells (k a : ByteArray) (host : Value) (r : Int) : Array Value := (roomList k a host r).toArray

theorem build_node (k a : ByteArray) (H : Addr) (T : TypeId) (r : Int) (w : World) :
    Sem.run Ybaz.prog (Instr.build 64 #[(0, .agg #[.string k, .string a]), (1, .iface T (.pointer (some H))), (6, .int .i64 r)]) w = .ok (.agg (nodeCells k a (.iface T (.pointer (some H))) r)) w := by kernel_rfl

theorem build_room (k a : ByteArray) (H : Addr) (T : TypeId) (r : Int) (w : World) :
    Sem.run Ybaz.prog (Instr.build 88 #[(0, .agg (nodeCells k a (.iface T (.pointer (some H))) r))]) w = .ok (.agg (roomCells k a (.iface T (.pointer (some H))) r)) w := by kernel_rfl

theorem box_room (k a : ByteArray) (H : Addr) (T : TypeId) (r : Int) (w : World) :
    Sem.run Ybaz.prog (Instr.box 88 (.agg (roomCells k a (.iface T (.pointer (some H))) r))) w = .ok (.pointer (some ⟨w.heap.size, 0, none⟩)) (w.alloc (.cells (roomCells k a (.iface T (.pointer (some H))) r) 88)) := by kernel_rfl

theorem wpl_node {ops : Array Oper} {rest : List Oper} {o : Oper} {c : Act} {w : World} {Q : Exit → Act → World → Prop} {x y z : Operand} {k a : ByteArray} {H : Addr} {T : TypeId} {r : Int}
    (hg : o.guard = none) (ho : o.op = .build 64 #[(0, x), (1, y), (6, z)]) (hx : c.eval x = .agg #[.string k, .string a]) (hy : c.eval y = .iface T (.pointer (some H))) (hz : c.eval z = .int .i64 r)
    (h : wpList Ybaz.prog ops Q rest (c.put o.dst (.agg (nodeCells k a (.iface T (.pointer (some H))) r))) w) : wpList Ybaz.prog ops Q (o :: rest) c w :=
  wpList_plain hg fun K hK => by
    unfold Oper.wp execOp
    simp only [ho, List.map_toArray, List.map_cons, List.map_nil, hx, hy, hz, Sem.run_bind, build_node, Result.andThen_ok]
    exact hK _ _ h

theorem wpl_room {ops : Array Oper} {rest : List Oper} {o : Oper} {c : Act} {w : World} {Q : Exit → Act → World → Prop} {x : Operand} {k a : ByteArray} {H : Addr} {T : TypeId} {r : Int}
    (hg : o.guard = none) (ho : o.op = .build 88 #[(0, x)]) (hx : c.eval x = .agg (nodeCells k a (.iface T (.pointer (some H))) r))
    (h : wpList Ybaz.prog ops Q rest (c.put o.dst (.agg (roomCells k a (.iface T (.pointer (some H))) r))) w) : wpList Ybaz.prog ops Q (o :: rest) c w :=
  wpList_plain hg fun K hK => by
    unfold Oper.wp execOp
    simp only [ho, List.map_toArray, List.map_cons, List.map_nil, hx, Sem.run_bind, build_room, Result.andThen_ok]
    exact hK _ _ h

theorem wpl_box {ops : Array Oper} {rest : List Oper} {o : Oper} {c : Act} {w : World} {Q : Exit → Act → World → Prop} {x : Operand} {k a : ByteArray} {H : Addr} {T : TypeId} {r : Int}
    (hg : o.guard = none) (ho : o.op = .box 88 x) (hx : c.eval x = .agg (roomCells k a (.iface T (.pointer (some H))) r))
    (h : wpList Ybaz.prog ops Q rest (c.put o.dst (.pointer (some ⟨w.heap.size, 0, none⟩))) (w.alloc (.cells (roomCells k a (.iface T (.pointer (some H))) r) 88))) : wpList Ybaz.prog ops Q (o :: rest) c w :=
  wpList_plain hg fun K hK => by
    unfold Oper.wp execOp
    simp only [ho, hx, Sem.run_bind, box_room, Result.andThen_ok]
    exact hK _ _ h

/-- The cells of a new node's block, at block N. -/
def newC (k a : ByteArray) (H : Addr) (T : TypeId) (r : Int) (N d : Nat) : Nat → Value := fun j =>
  if 1 ≤ d ∧ j = 21 then .slice (some ⟨N, 66, none⟩) 0 18
  else if 1 ≤ d ∧ j = 22 then .slice (some ⟨N, 174, none⟩) 0 18
  else if 2 ≤ d ∧ j = 32 then .slice (some ⟨N, 120, none⟩) 0 18
  else if 2 ≤ d ∧ j = 33 then .slice (some ⟨N, 192, none⟩) 0 18
  else if 3 ≤ d ∧ j = 9 then .slice (some ⟨N, 210, none⟩) 0 16
  else if 3 ≤ d ∧ j = 10 then .slice (some ⟨N, 242, none⟩) 0 16
  else (roomCells k a (.iface T (.pointer (some H))) r).getD j undef

theorem newC_step (k a : ByteArray) (H : Addr) (T : TypeId) (r : Int) (N d i1 i2 : Nat) (v1 v2 : Value)
    (h1 : newC k a H T r N (d + 1) i1 = v1) (h2 : newC k a H T r N (d + 1) i2 = v2)
    (ho : ∀ j, j ≠ i1 → j ≠ i2 → newC k a H T r N (d + 1) j = newC k a H T r N d j) (j : Nat) :
    upd (upd (newC k a H T r N d) i1 v1) i2 v2 j = newC k a H T r N (d + 1) j := by
  unfold upd
  by_cases e2 : j = i2
  · subst e2; rw [if_pos rfl, h2]
  · rw [if_neg e2]
    by_cases e1 : j = i1
    · subst e1; rw [if_pos rfl, h1]
    · rw [if_neg e1, ho j e1 e2]

theorem newC_start (k a : ByteArray) (H : Addr) (T : TypeId) (r : Int) (w : World) :
    Blk ((w.alloc (.cells #[.string k, .string a] 30)).alloc (.cells (roomCells k a (.iface T (.pointer (some H))) r) 88)) (w.heap.size + 1) 258 (newC k a H T r (w.heap.size + 1) 0) := by
  have h := Blk.fresh (w.alloc (.cells #[.string k, .string a] 30)) (roomCells k a (.iface T (.pointer (some H))) r) 88
  have hs : (roomCells k a (.iface T (.pointer (some H))) r).size = 258 := by kernel_rfl
  rw [hs, World.size_alloc] at h
  exact h.congr fun j hj => by simp [newC]

theorem newC_1 (k a : ByteArray) (H : Addr) (T : TypeId) (r : Int) (w : World) (N : Nat) (h : Blk w N 258 (newC k a H T r N 0)) :
    Blk ((w.setCell ⟨N, 21, none⟩ (.slice (some ⟨N, 66, none⟩) 0 18)).setCell ⟨N, 22, none⟩ (.slice (some ⟨N, 174, none⟩) 0 18)).drew.drew N 258 (newC k a H T r N 1) :=
  (((h.set 21 (by omega) _).set 22 (by omega) _).congr fun j _ => newC_step k a H T r N 0 21 22 _ _ rfl rfl (fun j e1 e2 => by simp [newC, e1, e2]) j).drew.drew

theorem newC_2 (k a : ByteArray) (H : Addr) (T : TypeId) (r : Int) (w : World) (N : Nat) (h : Blk w N 258 (newC k a H T r N 1)) :
    Blk ((w.setCell ⟨N, 32, none⟩ (.slice (some ⟨N, 120, none⟩) 0 18)).setCell ⟨N, 33, none⟩ (.slice (some ⟨N, 192, none⟩) 0 18)).drew.drew N 258 (newC k a H T r N 2) :=
  (((h.set 32 (by omega) _).set 33 (by omega) _).congr fun j _ => newC_step k a H T r N 1 32 33 _ _ rfl rfl (fun j e1 e2 => by simp [newC, e1, e2]) j).drew.drew

theorem newC_3 (k a : ByteArray) (H : Addr) (T : TypeId) (r : Int) (w : World) (N : Nat) (h : Blk w N 258 (newC k a H T r N 2)) :
    Blk ((w.setCell ⟨N, 9, none⟩ (.slice (some ⟨N, 210, none⟩) 0 16)).setCell ⟨N, 10, none⟩ (.slice (some ⟨N, 242, none⟩) 0 16)).drew N 258 (newC k a H T r N 3) :=
  (((h.set 9 (by omega) _).set 10 (by omega) _).congr fun j _ => newC_step k a H T r N 2 9 10 _ _ rfl rfl (fun j e1 e2 => by simp [newC, e1, e2]) j).drew

set_option maxHeartbeats 400000 in
set_option maxRecDepth 100000 in
theorem new_any (k a : ByteArray) (H : Addr) (T : TypeId) (r : Int) (w : World) :
    Calls Ybaz.prog 5 #[.agg #[.string k, .string a], .iface T (.pointer (some H)), .int .i64 r] w fun e w' => e = .returned (.pointer (some ⟨w.heap.size + 1, 0, none⟩)) ∧
      Blk w' (w.heap.size + 1) 258 (newC k a H T r (w.heap.size + 1) 3) ∧ Below w.heap.size w w' ∧ w'.heap.size = w.heap.size + 2 := by
  go_enter Ybaz.func5, Ybaz.ntmps5
  go_wp2_with (first | (refine wpl_node rfl rfl rfl rfl rfl ?_) | (refine wpl_room rfl rfl rfl ?_) | (refine wpl_box rfl rfl rfl ?_))
  go_loopw [19] (fun i wr => ∃ d : Nat, d ≤ 2 ∧ i = .int .i64 d ∧ Blk wr (w.heap.size + 1) 258 (newC k a H T r (w.heap.size + 1) d) ∧ Below w.heap.size w wr ∧ wr.heap.size = w.heap.size + 2) (fun i _ => 2 - (intOf i).toNat)
  case atStart => exact ⟨0, by omega, rfl, newC_start k a H T r w, ((Below.refl _ _).alloc (Nat.le_refl _) _).alloc (by simp) _, by simp⟩
  case round =>
    obtain ⟨d, hd, rfl, hb, hB, hz⟩ := hrel
    rcases (show d = 0 ∨ d = 1 ∨ d = 2 from by omega) with rfl | rfl | rfl
    · have c21 := hb.1 21 (by omega)
      have c22 := hb.1 22 (by omega)
      have f21 := hb.2 21
      have f22 := hb.2 22
      go_wp2
      go_region
      go_wp2
      go_region
      go_wp2
      go_roundw
      case rel => exact ⟨1, by omega, rfl, newC_1 k a H T r wr _ hb, (((hB.setCell (by simp) _).setCell (by simp) _).drew).drew, by simpa using hz⟩
      case measure => simp [intOf]
    · have c32 := hb.1 32 (by omega)
      have c33 := hb.1 33 (by omega)
      have f32 := hb.2 32
      have f33 := hb.2 33
      go_wp2
      go_region
      go_wp2
      go_region
      go_wp2
      go_roundw
      case rel => exact ⟨2, by omega, rfl, newC_2 k a H T r wr _ hb, (((hB.setCell (by simp) _).setCell (by simp) _).drew).drew, by simpa using hz⟩
      case measure => simp [intOf]
    · have c9 := hb.1 9 (by omega)
      have c10 := hb.1 10 (by omega)
      have f9 := hb.2 9
      have f10 := hb.2 10
      go_wp2
      go_region
      go_wp2
      go_ret
      exact ⟨rfl, newC_3 k a H T r wr _ hb, ((hB.setCell (by simp) _).setCell (by simp) _).drew, by simpa using hz⟩

/-- 'New', the node's block by a name. -/
theorem new_at (k a : ByteArray) (H : Addr) (T : TypeId) (r : Int) (w : World) :
    Calls Ybaz.prog 5 #[.agg #[.string k, .string a], .iface T (.pointer (some H)), .int .i64 r] w fun e w' => ∃ N, e = .returned (.pointer (some ⟨N, 0, none⟩)) ∧
      Blk w' N 258 (newC k a H T r N 3) ∧ Below w.heap.size w w' ∧ w.heap.size < N ∧ N < w'.heap.size := by
  refine (new_any k a H T r w).mono ?_
  rintro e w' ⟨rfl, h1, h2, h3⟩
  exact ⟨_, rfl, h1, h2, by omega, by omega⟩
end Go.Proofs.YbulkbpcaGreat
