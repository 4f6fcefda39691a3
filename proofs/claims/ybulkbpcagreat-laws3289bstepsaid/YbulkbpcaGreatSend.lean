import Derived.Test.YbulkbpcaGreatHost
namespace Go.Proofs.YbulkbpcaGreat
open Go.ChangeShapes Go.WideShapes Go.ChangeAt Go.RowKit
set_option linter.unusedVariables false
attribute [local go_sem ↓] eq_peer
attribute [local go_sem] guard_peer field_key msg_cells rowL_drew rowL_drewN rowL_alloc rowL_setCell load_msg
attribute [local go_sem ↓] load_msg0 store_msg0

/-- All of a message's cells are one cell each. -/
def One (c : Nat → Value) : Prop := (mA c).all (·.oneCell') = true

theorem store_msg (w : World) (g : Nat) (hg : w.heap.size = g) (cs : Array Value) (hs : cs.size = 23) (c : Nat → Value) (h1 : One c) :
    Sem.run Ybaz.prog (storeMsgAt (.pointer (some ⟨g, 0, none⟩)) (.agg (mA c))) (w.alloc (.cells cs 72)) = .ok () (w.alloc (.cells (mA c) 72)) := by
  subst hg
  exact run_storeAt_new w 72 cs (mA c) (by kernel_rfl) hs h1

theorem HostSt.drew {w : World} {H G : Nat} {K : Value} {ls : List (List Value)} {os : List Value} (h : HostSt w H G K ls os) : HostSt w.drew H G K ls os := by
  obtain ⟨S, O, h1, h2, h3, h4, h5, h6⟩ := h
  exact ⟨S, O, h1.drew, h2.drew, h3.drew, h4, h5, h6⟩

theorem method_send (a : Addr) (w : World) : Sem.run Ybaz.prog (method 363 24 (.pointer (some a)) "Send") w = .ok (181, .pointer (some a)) w := by kernel_rfl

theorem load_var {w : World} {M : Nat} {c : Nat → Value} (h : Blk w M 23 c) : Sem.run Ybaz.prog (loadVar 72 ⟨M, 0, none⟩) w = .ok (.agg (mA c)) w := by
  obtain ⟨hl, hc⟩ := rowL_get (msg_rowL h)
  simp only [loadVar, Sem.run_bind, Sem.run_pure, Result.andThen_ok, Ybaz.isAgg72, Ybaz.sizeOf72, if_true]
  have := run_loadCells_list (P := Ybaz.prog) w ⟨M, 0, none⟩ (mL c) hc
  rw [hl] at this
  rw [this]
  rfl

theorem from_set (c : Nat → Value) (uk ua : ByteArray) : ((mA c).setIfInBounds 4 (.string uk)).setIfInBounds 5 (.string ua) = mA (upd (upd c 4 (.string uk)) 5 (.string ua)) := by rfl

attribute [local go_sem] store_msg

set_option maxRecDepth 100000 in
set_option maxHeartbeats 1000000 in
/-- 'withLists' at a node of one replica: the message as it is. -/
theorem withLists_one (N : Nat) (c : Nat → Value) (w : World) (hN : N < w.heap.size) (h1 : One c) (c7 : w.cell? ⟨N, 7, none⟩ = some (.int .i64 1)) :
    Calls Ybaz.prog 19 #[.pointer (some ⟨N, 0, none⟩), .agg (mA c)] w fun e w' => e = .returned (.agg (mA c)) ∧ Below w.heap.size w w' := by
  have hm := msg_fresh w c 72
  have hrow := msg_rowL hm
  go_enter Ybaz.func19, Ybaz.ntmps19
  go_wp2
  refine bodyPost_ret (v := .agg (mA c)) ?_ rfl ⟨rfl, ((Below.refl _ _).alloc (Nat.le_refl _) _).alloc (by simp) _⟩
  have hm3 := msg_fresh (w.alloc (.cells (mA c) 72)) c 72
  rw [World.size_alloc] at hm3
  have hlv := load_var hm3
  simp [results, Ybaz.results19, asAddr, hlv]

set_option maxRecDepth 100000 in
set_option maxHeartbeats 1000000 in
/-- 'n.send(to, m)'. -/
theorem send_any (N H G : Nat) (K : Value) (ls : List (List Value)) (os : List Value) (cN c : Nat → Value) (k a uk ua : ByteArray) (w : World) (hb : Blk w N 258 cN) (hN : N < w.heap.size) (h0 : cN 0 = .string uk) (h1 : cN 1 = .string ua) (h2 : cN 2 = .iface 24 (.pointer (some ⟨H, 0, none⟩)))
    (hc : ∀ u ∈ sL k a (upd (upd c 4 (.string uk)) 5 (.string ua)), u.oneCell' = true) (hs : HostSt w H G K ls os) (hl : ls.length ≤ 10) (ho : os.length ≤ 10) :
    Calls Ybaz.prog 20 #[.pointer (some ⟨N, 0, none⟩), .agg #[.string k, .string a], .agg (mA c)] w fun e w' => e = .returned (.tuple #[]) ∧ HostSt w' H G K (ls ++ [sL k a (upd (upd c 4 (.string uk)) 5 (.string ua))]) (os ++ [.int .u8 83]) ∧ Kp (fun j => j = H ∨ G ≤ j) w w' := by
  have c0 : w.cell? ⟨N, 0, none⟩ = some (.string uk) := (hb.1 0 (by omega)).trans (by rw [h0])
  have c1 : w.cell? ⟨N, 1, none⟩ = some (.string ua) := (hb.1 1 (by omega)).trans (by rw [h1])
  have hm := msg_fresh (w.alloc (.cells #[.string k, .string a] 30)) c 72
  rw [World.size_alloc] at hm
  have m4 := hm.1 4 (by omega)
  have m5 := hm.1 5 (by omega)
  have g4 := hm.2 4
  have g5 := hm.2 5
  go_enter Ybaz.func20, Ybaz.ntmps20
  go_wp2_with fail
  rw [from_set]
  clear hm m4 m5 g4 g5 c0 c1
  have hm := msg_fresh (w.alloc (.cells #[.string k, .string a] 30)) (upd (upd c 4 (.string uk)) 5 (.string ua)) 72
  rw [World.size_alloc] at hm
  have hb2 := (hb.alloc hN (.cells #[.string k, .string a] 30)).alloc (by simp; omega) (.cells (mA (upd (upd c 4 (.string uk)) 5 (.string ua))) 72)
  have hB2 : Below w.heap.size w ((w.alloc (.cells #[.string k, .string a] 30)).alloc (.cells (mA (upd (upd c 4 (.string uk)) 5 (.string ua))) 72)) := ((Below.refl _ w).alloc (Nat.le_refl _) _).alloc (by simp) _
  have hp2 := (peer_fresh w k a 30).alloc (by simp) (.cells (mA (upd (upd c 4 (.string uk)) 5 (.string ua))) 72)
  obtain ⟨P, hP⟩ : ∃ P, P = w.heap.size := ⟨_, rfl⟩
  rw [← hP] at hp2 hm
  rw [← hP]
  generalize World.alloc _ (.cells (mA (upd (upd c 4 (.string uk)) 5 (.string ua))) 72) = w2 at hm hb2 hp2 hB2 ⊢
  clear hP
  have hs2 := hs.below hB2
  have hrow := msg_rowL hm
  have d2 : w2.cell? ⟨N, 2, none⟩ = some (.iface 24 (.pointer (some ⟨H, 0, none⟩))) := (hb2.1 2 (by omega)).trans (by rw [h2])
  have p0 : w2.cell? ⟨P, 0, none⟩ = some (.string k) := hp2.1 0 (by omega)
  have p1 : w2.cell? ⟨P, 1, none⟩ = some (.string a) := hp2.1 1 (by omega)
  have hmt := method_send
  have HC : Hid _ := hc
  clear hc hm hb2 hp2
  go_region_with (go_at_call 181; refine (host_send H G K ls os k a _ HC.out _ hs2.drew hl ho).mono ?_; rintro e w3 ⟨rfl, q1, q2⟩; have HF : Hid _ := q1; have HK : Hid _ := q2; clear q1 q2)
  all_goals go_wp2
  all_goals go_end0
  all_goals exact ⟨rfl, HF.out, (Kp.of_below hB2).drew.trans HK.out⟩
end Go.Proofs.YbulkbpcaGreat
