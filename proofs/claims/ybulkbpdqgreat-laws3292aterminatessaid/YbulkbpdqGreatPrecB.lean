import Derived.Test.YbulkbpdqGreatPrec
import Derived.Stop.RegionWithIn
import Derived.RangeFuncNested
import Derived.RangeFuncBound
import Derived.RangeFuncCalls
import Derived.RangeFuncLeaves
import Derived.Shelf.Abstract
import Derived.Shelf.RegionOpen
import Derived.OwnWalkIn
import Derived.TacticsInMore
import Derived.LoopNIn
import Derived.LoopIn
import Derived.BigRegionIn
import Derived.Sort.QuietIn
namespace Go.Proofs.YbulkbpdqGreat
open Go.ChangeShapes Go.WideShapes Go.ChangeAt Go.RowKit Go.Shelf
set_option linter.unusedVariables false
attribute [local go_sem] Oper.semAt_some

set_option maxRecDepth 100000 in
set_option maxHeartbeats 1000000 in
theorem precB_in (n : Nat) (hn : 1 ≤ n) (l C : Nat) (E : Env) (W0 : E.Wf) (og : Nat → ByteArray) (s : Sta) (k : Nat) (hk : k < E.n) (hS : Shape E og s) (how : s.ow k = true) (j : Nat) (hs : E.src k = some j) (hoj : s.ow j = true) (J Jx : List Unit → World → Prop) (W : World)
    (hJ : AbidesFrom W.heap.size J)
    (hY : ∀ pre x W1, J pre W1 → pre.length < 1 → YieldAt Fence.wide (n - 1) Ybaz.prog l #[.pointer (some ⟨E.ad (.tx j), 0, none⟩)] W1 fun e W' =>
      (e = .returned (.bool true) ∧ J (pre ++ [x]) W' ∧ True) ∨ (e = .returned (.bool false) ∧ Jx (pre ++ [x]) W'))
    (h : St E s W) (cC : W.cell? ⟨C, 0, none⟩ = some (ptr (E.ad (.tx k)))) (h0 : J [] W) :
    CallsIn Fence.wide n Ybaz.prog 72 #[.func (.yield l) #[] #[], .pointer (some ⟨C, 0, none⟩)] W fun e W' => (∃ v, e = .returned v) ∧ ((∃ xs, xs = [()] ∧ J xs W') ∨ (∃ pre, True ∧ Jx pre W')) := by
  have hCl : C < W.heap.size := by
    by_cases e : C < W.heap.size
    · exact e
    · simp [World.cell?, Array.getElem?_eq_none (Nat.le_of_not_lt e)] at cC
  have ht := (h.loc (.tx k) hk).1
  have t16 : W.cell? ⟨E.ad (.tx k), 16, none⟩ = some (.slice (some ⟨E.ad (.ws k), 0, none⟩) 1 1) := (ht.1 16 (by omega)).trans (by
    show some (one (s.wr k) _) = _
    rw [hS.wr k hk, how]; rfl)
  have htl := ht.lt (by omega)
  have hws : Blk W (E.ad (.ws k)) 1 (fun _ => ptr (E.ad (.im k))) := h.loc (.ws k) hk
  have r0 : W.cell? ⟨E.ad (.ws k), 0, none⟩ = some (.pointer (some ⟨E.ad (.im k), 0, none⟩)) := hws.1 0 (by omega)
  have hwl := hws.lt (by omega)
  have hI : Blk W (E.ad (.im k)) 3 (imOf E s k) := h.loc (.im k) hk
  have i2 : W.cell? ⟨E.ad (.im k), 2, none⟩ = some (.map (some (E.ad (.mr k)))) := hI.1 2 (by omega)
  have hIl := hI.lt (by omega)
  obtain ⟨F, ⟨LL, clock, hR⟩, hF⟩ : ∃ F, MapF ptr W (E.ad (.mr k)) F ∧ RdF E s k F := h.loc (.mr k) hk
  have hrange := run_range_map (P := Ybaz.prog) W 54 34 80 (E.ad (.mr k)) _ clock Ybaz.underlying54 hR.obj
  have hnew : ∀ b v, F b = some v → v = rlv true := fun b v hb => by
    obtain ⟨r, hr, rfl⟩ := hF.2 b (by rw [hb]; rfl)
    rw [hF.1 r hr] at hb
    by_cases e : E.src r = some k
    · rw [if_pos e, hS.rl r hr] at hb
      cases ho : s.ow r with
      | false => rw [ho] at hb; simp at hb
      | true => rw [ho, e] at hb; simp [how] at hb; exact hb.symm
    · rw [if_neg e] at hb; cases hb
  have HST : Hid (Looking E k W (J []) W.heap.size F (W.alloc (.mapIter (some (E.ad (.mr k))) clock #[] clock))) := ⟨LL, clock, #[], ⟨hR.block (Below.heap_alloc _ _ _ hR.lt), heap_alloc_new W _⟩, hJ [] _ _ none h0 (World.grownBy_alloc W _ none) (fun r e => by cases e), (Below.refl _ W).alloc (Nat.le_refl _) _⟩
  have HJ : Hid _ := hJ
  have HY : Hid _ := hY
  have H : Hid (St E s W) := h
  have HN : Hid (∀ b v, F b = some v → v = rlv true) := hnew
  clear h0 hJ hY h ht hws hI hR hF hnew
  unfold ptr at cC
  refine callsIn_of_wp Ybaz.func72 rfl trivial ?_ rfl
  simp only [Ybaz.ntmps72, List.size_toArray, List.length_cons, List.length_nil, Nat.reduceAdd, Nat.reduceSub, Array.replicate_succ, Array.replicate_zero, List.push_toArray, List.append_toArray, List.nil_append, List.cons_append]
  gi_wp2
  refine wpIn_loop_rounds 2 ?_
  rw [roundsIn_succ]
  gi_wp2
  obtain ⟨itb, hitb⟩ : ∃ itb, itb = W.heap.size := ⟨_, rfl⟩
  rw [← hitb] at HST
  rw [← hitb]
  generalize World.alloc W _ = W2 at HST ⊢
  have hib : W.heap.size ≤ itb := by omega
  clear hitb hrange
  gi_loopw [5] (fun _ wr => Looking E k W (J []) itb F wr) (fun _ wr => restOf wr (E.ad (.mr k)) itb)
  case atStart => exact HST.out
  case round =>
    obtain ⟨L2, clock2, seen, hIt, hJr, hB⟩ := hrel
    rcases hIt.next 0 with ⟨hall, hnext⟩ | ⟨j, b, v, nn, w', hj, hnn, hnext, hentry, hIt', hKn, hsz⟩
    · have hst := H.out.below W0 hB
      have HJr : Hid (J [] wr) := hJr
      have dC := (hB.cell (p := ⟨C, 0, none⟩) hCl).trans cC
      have htl2 : E.ad (.tx k) < wr.heap.size := Nat.lt_of_lt_of_le htl hB.size
      have hCl2 : C < wr.heap.size := Nat.lt_of_lt_of_le hCl hB.size
      have ht2 := (hst.loc (.tx k) hk)
      have hjn := W0.src k j hk hs
      have t15 : wr.cell? ⟨E.ad (.tx k), 15, none⟩ = some (.slice (some ⟨E.ad (.rs k), 0, none⟩) 1 1) := (ht2.1.1 15 (by omega)).trans (by
        show some (one (s.rd k) _) = _
        rw [hS.rd k hk, how, hs]; rfl)
      have hrs : Blk wr (E.ad (.rs k)) 1 (fun _ => ptr (E.ad (.im j))) := hst.loc (.rs k) ⟨hk, by rw [hs]; simp⟩ j hs
      have q0 : wr.cell? ⟨E.ad (.rs k), 0, none⟩ = some (.pointer (some ⟨E.ad (.im j), 0, none⟩)) := hrs.1 0 (by omega)
      have hrl0 := hrs.lt (by omega)
      have hIj : Blk wr (E.ad (.im j)) 3 (imOf E s j) := hst.loc (.im j) hjn
      have i1j : wr.cell? ⟨E.ad (.im j), 1, none⟩ = some (.pointer (some ⟨E.ad (.tx j), 0, none⟩)) := (hIj.1 1 (by omega)).trans (by simp [imOf, imC, opt, hoj, ptr])
      have i2j : wr.cell? ⟨E.ad (.im j), 2, none⟩ = some (.map (some (E.ad (.mr j)))) := hIj.1 2 (by omega)
      have hIlj := hIj.lt (by omega)
      obtain ⟨Fj, hMj, hFj⟩ : ∃ F, MapF ptr wr (E.ad (.mr j)) F ∧ RdF E s j F := hst.loc (.mr j) hjn
      have hFk : Fj (E.ad (.tx k)) = some (rlv true) := by rw [hFj.1 k hk, if_pos hs, hS.rl k hk, how, hs]; simp [hoj]
      have hlkd : Sem.run Ybaz.prog (Instr.lookup 54 (.map (some (E.ad (.mr j)))) (.pointer (some ⟨E.ad (.tx k), 0, none⟩)) false) wr.drew = .ok (.string ⟨#[114, 108, 45, 110, 101, 119]⟩) wr.drew := by
        have := (hMj.block (w' := wr.drew) rfl).lookup ptrKey Ybaz.underlying54 zero80 (E.ad (.tx k)) false (ht2.2.block rfl) (fun b hb => (hst.goodKeys hFj b hb).block rfl)
        rw [hFk] at this
        exact this
      have hJd : J [] wr.drew := HJ.out [] _ _ none hJr ⟨rfl, rfl, rfl, Nat.le_refl _, fun _ _ _ => rfl⟩ (fun r e => by cases e)
      obtain ⟨fn, tmps, assign, body, hy, hR⟩ := HY.out [] () wr.drew hJd (by simp)
      have hR2 := hR.mono (R' := fun e W' => ∃ t : Bool, e = .returned (.bool t) ∧ (if t then J [()] W' else Jx [()] W')) (by
        rintro e W' (⟨rfl, h1, _⟩ | ⟨rfl, h1⟩)
        · exact ⟨true, rfl, h1⟩
        · exact ⟨false, rfl, h1⟩)
      have HR : Hid (type_of% hR2) := hR2
      clear hR hR2
      clear hall hIt hJr hB hst ht2 H HST cC t16 r0 i2 hrs hIj hMj hFj hFk hJd
      gi_wp2
      rw [roundsIn_succ]
      gi_wp2
      refine wpIn_loop_rounds 2 ?_
      rw [roundsIn_succ]
      gi_wp2
      gi_region_with (refine HR.out.mono ?_; rintro e W3 ⟨t, rfl, hh⟩)
      all_goals
        have HH : Hid (if t then J [()] W3 else Jx [()] W3) := hh
        clear hh HR hy hlkd
        cases t with
        | true =>
          gi_wp2
          rw [roundsIn_succ]
          gi_wp2
          go_end0
          exact ⟨⟨_, rfl⟩, .inl ⟨_, rfl, HH.out⟩⟩
        | false =>
          gi_wp2
          refine bodyPost_ret (results_none rfl _ _ _) rfl ?_
          exact ⟨⟨_, rfl⟩, .inr ⟨_, trivial, HH.out⟩⟩
    · have hv := HN.out b v ((hIt.m.f b v).2 ⟨nn, List.mem_of_getElem? hj⟩)
      subst hv
      have hJ' : J [] w' := HJ.out [] _ _ (some itb) hJr hKn.grownBy (fun r e => by cases e; exact ⟨hib, _, hIt.i, rfl⟩)
      have hB' : Below W.heap.size W w' := hB.trans (hKn.below hB.size (fun b hb e => by omega))
      have HG : Hid (Looking E k W (J []) itb F w' ∧ restOf w' (E.ad (.mr k)) itb < restOf wr (E.ad (.mr k)) itb) := ⟨⟨L2, clock2, _, hIt', hJ', hB'⟩, by rw [hIt.rest, hIt'.rest]; exact leftN_push (List.mem_of_getElem? hj) hnn⟩
      clear hIt hJr hB hIt' hKn hsz hJ' hB' hj hnn H HST cC t16 r0 i2
      unfold rlv rlNewB ptr at hnext hentry
      gi_wp2
      refine ⟨nofun, ?_⟩
      gi_wp2
      go_roundw
      case rel => exact HG.out.1
      case measure => exact HG.out.2
end Go.Proofs.YbulkbpdqGreat
