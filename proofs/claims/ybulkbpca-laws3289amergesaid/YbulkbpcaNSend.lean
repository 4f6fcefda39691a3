import Derived.Test.YbulkbpcaSend
namespace Go.Proofs.Ybulkbpca
open Go.ChangeShapes Go.WideShapes Go.ChangeAt Go.RowKit
set_option linter.unusedVariables false
attribute [local go_sem ↓] Go.wp_at_zero Go.wp_at_succ
attribute [local go_sem ↓] eq_peer
attribute [local go_sem] guard_peer field_key msg_cells rowL_drew rowL_drewN rowL_alloc rowL_setCell load_msg buildSlice_msg
attribute [local go_sem ↓] load_msg0 build_msg0

theorem method_send (a : Addr) (w : World) : Sem.run Yba.prog (method 310 26 (.pointer (some a)) "Send") w = .ok (97, .pointer (some a)) w := by kernel_rfl

theorem from_set (fk fa uk ua xk xa : ByteArray) (id : Int) (key : ByteArray) (hops : Int) : ((msgA fk fa xk xa id key hops).setIfInBounds 4 (.string uk)).setIfInBounds 5 (.string ua) = msgA uk ua xk xa id key hops := by kernel_rfl

set_option maxRecDepth 100000 in
set_option maxHeartbeats 1000000 in
/-- 'n.send(to, m)' at a host that has heard of nothing. -/
theorem send_any (N H : Nat) (c : Nat → Value) (k a fk fa uk ua xk xa key : ByteArray) (id hops n : Int) (w : World) (hb : Blk w N 258 c) (hN : N < w.heap.size) (h0 : c 0 = .string uk) (h1 : c 1 = .string ua) (h2 : c 2 = .iface 26 (.pointer (some ⟨H, 0, none⟩)))
    (hh : Blk w H 3 (fun j => if j = 2 then .int .i64 n else .slice none 0 0)) (hH : H < w.heap.size) :
    Calls Yba.prog 13 #[.pointer (some ⟨N, 0, none⟩), .agg #[.string k, .string a], .agg (msgA fk fa xk xa id key hops)] w fun e w' => e = .returned (.tuple #[]) ∧ SentPost H k a uk ua xk xa id key hops n w w' := by
  have hmt := method_send
  have c0 : w.cell? ⟨N, 0, none⟩ = some (.string uk) := (hb.1 0 (by omega)).trans (by rw [h0])
  have c1 : w.cell? ⟨N, 1, none⟩ = some (.string ua) := (hb.1 1 (by omega)).trans (by rw [h1])
  have hm := msg_fresh (w.alloc (.cells #[.string k, .string a] 25)) fk fa xk xa id key hops 65
  rw [World.size_alloc] at hm
  have m4 := hm.1 4 (by omega)
  have m5 := hm.1 5 (by omega)
  have g4 := hm.2 4
  have g5 := hm.2 5
  go_enter Yba.func13, Yba.ntmps13
  go_wp2
  rw [from_set]
  clear hm m4 m5 g4 g5 c0 c1
  have hm := msg_fresh (w.alloc (.cells #[.string k, .string a] 25)) uk ua xk xa id key hops 65
  rw [World.size_alloc] at hm
  have hb2 := (hb.alloc hN (.cells #[.string k, .string a] 25)).alloc (by simp; omega) (.cells (msgA uk ua xk xa id key hops) 65)
  have hh2 := (hh.alloc hH (.cells #[.string k, .string a] 25)).alloc (by simp; omega) (.cells (msgA uk ua xk xa id key hops) 65)
  have hp2 := (peer_fresh w k a 25).alloc (by simp) (.cells (msgA uk ua xk xa id key hops) 65)
  have hK2 : Below w.heap.size w ((w.alloc (.cells #[.string k, .string a] 25)).alloc (.cells (msgA uk ua xk xa id key hops) 65)) := ((Below.refl _ w).alloc (Nat.le_refl _) _).alloc (by simp) _
  obtain ⟨P, hP⟩ : ∃ P, P = w.heap.size := ⟨_, rfl⟩
  rw [← hP] at hp2 hm
  rw [← hP]
  generalize World.alloc _ (.cells (msgA uk ua xk xa id key hops) 65) = w2 at hm hb2 hh2 hp2 hK2 ⊢
  clear hP
  have hrow := msg_rowL hm
  have d2 : w2.cell? ⟨N, 2, none⟩ = some (.iface 26 (.pointer (some ⟨H, 0, none⟩))) := (hb2.1 2 (by omega)).trans (by rw [h2])
  have p0 : w2.cell? ⟨P, 0, none⟩ = some (.string k) := hp2.1 0 (by omega)
  have p1 : w2.cell? ⟨P, 1, none⟩ = some (.string a) := hp2.1 1 (by omega)
  have hH2 : H < w2.heap.size := Nat.lt_of_lt_of_le hH hK2.size
  go_region_with (go_at_call 97; refine (send_host H k a uk ua xk xa key id hops n _ (by exact hh2.drew) (by exact hH2)).mono ?_; rintro e w3 ⟨rfl, hs3⟩)
  all_goals go_wp2
  all_goals go_end0
  all_goals
    obtain ⟨g, cap, g2, cap2, q1, q2, q3, q4, q5, q6, q7⟩ := hs3
    exact ⟨rfl, g, cap, g2, cap2, q1, q2, q3, ((Kp.of_below hK2).drew).trans q4, Nat.le_trans hK2.size (by simpa using q5), Nat.le_trans hK2.size (by simpa using q6), q7⟩
end Go.Proofs.Ybulkbpca
