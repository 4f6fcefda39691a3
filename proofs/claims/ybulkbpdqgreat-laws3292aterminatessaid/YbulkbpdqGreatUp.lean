import Derived.Test.YbulkbpdqGreatHeap
namespace Go.Proofs.YbulkbpdqGreat
open Go.ChangeShapes Go.WideShapes Go.ChangeAt Go.RowKit
set_option linter.unusedVariables false

theorem wrap_ptr (ts : Array TypeId) (t : TypeId) (a : Addr) (s1 s2 : String) (w : World) : Sem.run Ybaz.prog (Builtin.ssaWrapNilChk_ ts t #[.pointer (some a), strVal s1, strVal s2]) w = .ok (.pointer (some a)) w := rfl
theorem m_val (n : Nat) (name : String) (f : FuncId) (h : ((Ybaz.prog.info? 139).bind (fun i => i.methods.find? (·.name == name))).map (fun m => (m.path, m.func)) = some (#[], some (f, false))) (a : Addr) (w : World) : Sem.run Ybaz.prog (method (n + 1) 139 (.pointer (some a)) name) w = (Sem.run Ybaz.prog (loadVar 76 a) w).andThen fun v w' => .ok (f, v) w' := by
  cases hi : Ybaz.prog.info? 139 with
  | none => rw [hi] at h; simp at h
  | some i =>
    rw [hi] at h
    simp only [Option.bind_some] at h
    cases hm : i.methods.find? (·.name == name) with
    | none => rw [hm] at h; simp at h
    | some m =>
      rw [hm] at h
      simp at h
      obtain ⟨h1, h2⟩ := h
      rw [method]
      simp [typeInfo, hi, hm, h1, h2, follow, Place.get, receiverAt, run_underlying Ybaz.underlying139, wrap_ptr, asAddr, Result.andThen]
theorem m_less (a : Addr) (w : World) : Sem.run Ybaz.prog (method 407 139 (.pointer (some a)) "Less") w = (Sem.run Ybaz.prog (loadVar 76 a) w).andThen fun v w' => .ok (189, v) w' := m_val 406 _ _ (by kernel_rfl) a w
theorem m_swap (a : Addr) (w : World) : Sem.run Ybaz.prog (method 407 139 (.pointer (some a)) "Swap") w = (Sem.run Ybaz.prog (loadVar 76 a) w).andThen fun v w' => .ok (190, v) w' := m_val 406 _ _ (by kernel_rfl) a w
theorem m_len (a : Addr) (w : World) : Sem.run Ybaz.prog (method 407 139 (.pointer (some a)) "Len") w = (Sem.run Ybaz.prog (loadVar 76 a) w).andThen fun v w' => .ok (12, v) w' := m_val 406 _ _ (by kernel_rfl) a w
theorem m_push (a : Addr) (w : World) : Sem.run Ybaz.prog (method 407 139 (.pointer (some a)) "Push") w = .ok (196, .pointer (some a)) w := by kernel_rfl
theorem m_pop (a : Addr) (w : World) : Sem.run Ybaz.prog (method 407 139 (.pointer (some a)) "Pop") w = .ok (195, .pointer (some a)) w := by kernel_rfl
attribute [go_sem] m_less m_swap m_len m_push m_pop

set_option maxRecDepth 100000 in
set_option maxHeartbeats 1000000 in
theorem up_any (N o g cap j : Nat) (L : List Nat) (w : World) (hc : w.cell? ⟨N, o, none⟩ = some (.slice (some ⟨g, 0, none⟩) L.length cap)) (hNg : N ≠ g) (h : HQ w g cap L) (hj : j < L.length) (hl : L.length ≤ 1099511627776) :
    Calls Ybaz.prog 42 #[.iface 139 (.pointer (some ⟨N, o, none⟩)), .int .i64 j] w fun e w' => e = .returned (.tuple #[]) ∧ ∃ L', L'.Perm L ∧ HQ w' g cap L' ∧ Kp (fun k => k = g) w w' := by
  have hN : N < w.heap.size := by
    by_cases e : N < w.heap.size
    · exact e
    · simp [World.cell?, Array.getElem?_eq_none (Nat.le_of_not_lt e)] at hc
  go_enter Ybaz.func42, Ybaz.ntmps42
  go_wp2_with fail
  go_loopw [1] (fun v wr => ∃ (j : Nat) (L' : List Nat), j < L.length ∧ v = .int .i64 j ∧ L'.Perm L ∧ HQ wr g cap L' ∧ Kp (fun k => k = g) w wr) (fun v _ => (intOf v).toNat)
  case atStart => exact ⟨j, L, hj, rfl, List.Perm.refl _, h, Kp.refl _ _⟩
  case round =>
    obtain ⟨j, L', hj, rfl, hp, hQ, hK⟩ := hrel
    have hll := hp.length_eq
    have hc' : wr.cell? ⟨N, o, none⟩ = some (.slice (some ⟨g, 0, none⟩) L'.length cap) := by rw [hll]; exact (World.cell?_of_block (w := w) (hK.block N hN hNg)).trans hc
    have hNr : N < wr.heap.size := Nat.lt_of_lt_of_le hN hK.size
    have HP : Hid (L'.Perm L) := hp
    have hj' : j < L'.length := by omega
    clear hll hp
    by_cases j0 : j = 0
    · subst j0
      go_wp2_with fail
      go_end0
      exact ⟨rfl, L', HP.out, hQ, hK⟩
    · obtain ⟨i, hi⟩ : ∃ i, i = (j - 1) / 2 := ⟨_, rfl⟩
      have hq2 : (((j - 1 : Nat) : Int) / 2) = (i : Int) := by omega
      have hq3 : ((j : Int) - 1) / 2 = (i : Int) := by omega
      have hij : i < j := by omega
      have hne : ((i : Int) == (j : Int)) = false := by rw [beq_eq_false_iff_ne]; omega
      obtain ⟨b, hb⟩ : ∃ b, L'[j]? = some b := ⟨_, List.getElem?_eq_getElem hj'⟩
      obtain ⟨c, hcc⟩ : ∃ c, L'[i]? = some c := ⟨_, List.getElem?_eq_getElem (by omega)⟩
      clear hi
      go_wp2_with fail
      refine (less_any g cap j i b c L' wr hQ hb hcc).mono ?_
      rintro e w2 ⟨⟨t, rfl⟩, hB⟩
      have hQ2 := hQ.below hB
      have hK2 := hK.then hB
      have hc2 : w2.cell? ⟨N, o, none⟩ = some (.slice (some ⟨g, 0, none⟩) L'.length cap) := (hB.cell (p := ⟨N, o, none⟩) hNr).trans hc'
      clear hB
      cases t with
      | false =>
        go_wp2_with fail
        go_end0
        exact ⟨rfl, L', HP.out, hQ2, hK2⟩
      | true =>
        go_wp2_with fail
        refine (swap_any g cap i j c b L' w2 hQ2 hcc hb).mono ?_
        rintro e w3 ⟨rfl, hQ3, hK3⟩
        have HF : Hid (((L'.set i b).set j c).Perm L ∧ HQ w3 g cap ((L'.set i b).set j c) ∧ Kp (fun k => k = g) w w3) := ⟨(hQ2.swap hcc hb).2.2.trans HP.out, hQ3, hK2.trans hK3⟩
        clear hQ3 hK3
        go_wp2_with fail
        go_roundw
        case rel => exact ⟨i, _, by omega, rfl, HF.out.1, HF.out.2⟩
        case measure => simp [intOf]; omega
end Go.Proofs.YbulkbpdqGreat
