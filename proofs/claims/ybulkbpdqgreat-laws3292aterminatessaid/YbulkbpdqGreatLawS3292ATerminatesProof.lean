import Derived.Test.YbulkbpdqGreatRows
import Derived.Test.YbulkbpdqGreatLawH
import Derived.WalkKit
import Derived.ProofKit
import Derived.OpenShut
import Derived.ShutString
import Derived.ChangeOld
import Derived.Below
import Derived.Deep.Slices
namespace Go.Proofs.YbulkbpdqGreat.lawS3292ATerminates
open Go.ChangeShapes Go.WideShapes Go.ChangeAt Go.RowKit
set_option linter.unusedVariables false

theorem own : ownKnob Ybaz.prog.godebug = none := by kernel_rfl
theorem laidOut : laidOutB Ybaz.prog = true := by kernel_rfl
theorem cells33 : Ybaz.prog.cellsOf 33 = 3 := by kernel_rfl
theorem cells5 : Ybaz.prog.cellsOf 5 = 1 := by kernel_rfl
theorem cells31 : Ybaz.prog.cellsOf 31 = 1 := by kernel_rfl

theorem bound_u8 {z : Int} (h : (Lit.int .u8 z).wf = true) : 0 ≤ z ∧ z ≤ 255 := by
  simp only [Lit.wf, decide_eq_true_eq, Bool.and_eq_true] at h
  rw [show IntKind.u8.min = 0 from by kernel_rfl, show IntKind.u8.max = 255 from by kernel_rfl] at h
  omega
theorem bound_i16 {z : Int} (h : (Lit.int .i16 z).wf = true) : -32768 ≤ z ∧ z ≤ 32767 := by
  simp only [Lit.wf, decide_eq_true_eq, Bool.and_eq_true] at h
  rw [show IntKind.i16.min = -32768 from by kernel_rfl, show IntKind.i16.max = 32767 from by kernel_rfl] at h
  omega

set_option maxRecDepth 100000 in
/-- The drawn transactions, cell by cell. -/
theorem open_txs {H : Type} {enc : TypeId × Value → H} {W : World} {sp : Nat → Bool} {fuel : Nat} {a : Option Addr} {len cap : Nat} {x : DataW H × List MemPlace} (h : DataW.trod enc Ybaz.prog W 0 sp true fuel 22 [.slice a len cap] = some x) :
    len ≤ cap ∧ cap ≤ maxLen ∧ ∃ p q r, ArgTx W a len p q r := by
  rcases Deep.open_slice Ybaz.underlying22 h with ⟨hcs, _⟩ | ⟨b, len', cap', m, n, D, Pl, hcs, _, hl, hm, hmm, _, hx⟩
  · simp at hcs
    obtain ⟨rfl, rfl, rfl⟩ := hcs
    exact ⟨Nat.le_refl _, by unfold maxLen; omega, fun _ => 0, fun _ => 0, fun _ => 0, fun j hj => absurd hj (by omega)⟩
  · simp at hcs
    obtain ⟨rfl, rfl, rfl⟩ := hcs
    have hlm : len ≤ m := by rw [hmm]; split <;> omega
    refine ⟨hl, hm, ?_⟩
    have each : ∀ i, i < len → ∃ z : Nat × Nat × Int, W.cell? (b.add (i * 3)) = some (.int .u8 z.1) ∧ W.cell? (b.add (i * 3 + 1)) = some (.int .u8 z.2.1) ∧ W.cell? (b.add (i * 3 + 2)) = some (.int .i16 z.2.2) ∧ z.1 ≤ 255 ∧ z.2.1 ≤ 255 ∧ (-32768 ≤ z.2.2 ∧ z.2.2 ≤ 32767) := by
      intro i hi
      obtain ⟨cs', h1, h2⟩ := hx i (by omega)
      rw [cells33] at h1
      obtain ⟨_, hlen, hcell⟩ := World.cells?_some h1
      obtain ⟨xs, k, hk, hxy, _, hxl, hf⟩ := DataW.trod_struct Ybaz.underlying33 h2
      match xs, hxl, cs', hlen with
      | [y0, y1, y2], _, [v0, v1, v2], _ =>
        have g0 := hf 0 _ rfl
        have g1 := hf 1 _ rfl
        have g2 := hf 2 _ rfl
        simp [cells5, cells31] at g0 g1 g2
        obtain ⟨z0, e0, _, b0⟩ := DataW.trod_int Ybaz.underlying5 g0
        obtain ⟨z1, e1, _, b1⟩ := DataW.trod_int Ybaz.underlying5 g1
        obtain ⟨z2, e2, _, b2⟩ := DataW.trod_int Ybaz.underlying31 g2
        simp at e0 e1 e2
        subst e0 e1 e2
        have c0 := hcell 0 (by omega)
        have c1 := hcell 1 (by omega)
        have c2 := hcell 2 (by omega)
        rw [Deep.add_add] at c0 c1 c2
        have q0 := bound_u8 b0
        have q1 := bound_u8 b1
        refine ⟨(z0.toNat, z1.toNat, z2), ?_, ?_, by simpa using c2, by show z0.toNat ≤ 255; omega, by show z1.toNat ≤ 255; omega, bound_i16 b2⟩
        · show _ = some (Value.int .u8 ((z0.toNat : Nat) : Int))
          rw [Int.toNat_of_nonneg q0.1]; simpa using c0
        · show _ = some (Value.int .u8 ((z1.toNat : Nat) : Int))
          rw [Int.toNat_of_nonneg q1.1]; simpa using c1
    obtain ⟨z, hz⟩ := Deep.choose_lt each
    refine ⟨fun i => (z i).1, fun i => (z i).2.1, fun i => (z i).2.2, fun j hj => ?_⟩
    obtain ⟨blk, off, spot⟩ := b
    obtain ⟨c0, c1, c2, q0, q1, q2⟩ := hz j hj
    have hspot : spot = none := by simpa [Addr.add] using World.cell?_spot (hz 0 (by omega)).1
    subst hspot
    rw [add_plain] at c0 c1 c2
    refine ⟨blk, off, rfl, ?_, c0, by rw [Nat.add_assoc]; exact c1, by rw [Nat.add_assoc]; exact c2, q0, q1, q2.1, q2.2⟩
    by_cases e : blk < W.heap.size
    · exact e
    · simp [World.cell?, Array.getElem?_eq_none (Nat.le_of_not_lt e)] at c0

theorem walk (a0 : Option Addr) (len cap : Nat) (a1 : Bool) (w : World) (hl : len ≤ cap) (hm : cap ≤ maxLen) (p q : Nat → Nat) (r : Nat → Int) (hA : ArgTx w a0 len p q r) :
    Calls Ybaz.prog 3 #[.slice a0 len cap, .bool a1] w fun e w' => e = .returned (.bool true) ∧ Below w.heap.size w w' :=
  law_walk a0 len cap a1 w hl hm p q r hA

set_option maxRecDepth 100000 in
theorem lifted (os : Os) (started : os.Started) (H : Type) (enc : TypeId × Value → H) :
    ReturnsInHanded {} Ybaz.checked os 3 .any (Rows.lawS3292ATerminatesSpec.pre6 enc Ybaz.prog Ybaz.f3 Rows.lawS3292ATerminatesRow.domain false) (Rows.lawS3292ATerminatesSpec.post enc Ybaz.prog Ybaz.f3 false true false false) := by
  refine returnsInHanded_of_change (C := Ybaz.checked) own started (by kernel_rfl) Ybaz.func3
    (ChangeSpec.witness6 (enc := enc) (C := Ybaz.checked) false ⟨#[], #[.slice none 0 0, .bool false], []⟩ 8 (by kernel_rfl) (by kernel_rfl) (by kernel_rfl) (by kernel_rfl)) ?_
  intro W base args ds gs before hval0 hW hcnd _
  have hval : ∀ (j : Nat) t v, Ybaz.f3.params[j]? = some t → args[j]? = some v → Value.okWide Ybaz.prog W .any base t v := hval0
  have hW' := hW
  obtain ⟨p, q, hA0, hV, rfl, hfz, hnd⟩ := hW
  have hA : DataW.TrodAll enc Ybaz.prog W 0 (fun _ => true) true Ybaz.f3.params.toList args.toList ds p := hA0
  rw [Ybaz.params3] at hA hval
  obtain ⟨v0, vs0, d0, ds0, p0, q0, hargs, rfl, rfl, h0, r0⟩ := trodAll_cons hA
  obtain ⟨v1, vs1, d1, ds1, p1, q1, rfl, rfl, rfl, h1, r1⟩ := trodAll_cons r0
  obtain ⟨rfl, rfl, rfl⟩ := trodAll_nil r1
  obtain rfl : args = #[v0, v1] := by cases args; simp_all
  obtain ⟨rfl, rfl⟩ := trodVars_none hV
  obtain ⟨a0, len0, cap0, rfl⟩ := okWide_slice Ybaz.underlying22 (hval 0 22 v0 rfl rfl)
  have k0 := h0
  have lt0 : ∀ x ∈ p0, x.block < W.heap.size := by obtain ⟨m, hm⟩ := k0; exact DataW.trod_lt m _ _ _ hm
  obtain ⟨hl, hm, zp, zq, zr, hT⟩ : len0 ≤ cap0 ∧ cap0 ≤ maxLen ∧ ∃ p q r, ArgTx W a0 len0 p q r := by
    obtain ⟨fuel, hf⟩ := h0
    exact open_txs hf
  obtain ⟨a1, rfl, rfl, rfl⟩ := open_bool Ybaz.underlying4 (hval 1 4 v1 rfl rfl) h1
  clear hA0 hval0
  refine (walk a0 len0 cap0 a1 W hl hm zp zq zr hT).mono fun e W' ⟨he, bel⟩ => ?_
  subst he
  exact ⟨_, rfl, _, _, _, [], _, [], hW', trodAll_mk1 (shut_bool Ybaz.underlying4 _), (trodAll_cons_mk (Below.trod laidOut (by kernel_rfl) (of_decide_eq_true (by kernel_rfl)) k0 bel lt0) (trodAll_cons_mk (shut_bool Ybaz.underlying4 _) trodAll_mk0)), rfl, bel.frame _, fun h => by cases h⟩

theorem over : Rows.lawS3292ATerminatesRow.holds Ybaz.pinned (OpenSpec.ofChange Rows.lawS3292ATerminatesSpec) :=
  OpenClaim.holds_of_wide 3 Ybaz.f3 rfl rfl rfl rfl rfl rfl rfl ⟨rfl, rfl, rfl, rfl, rfl⟩ rfl rfl rfl rfl rfl (by kernel_rfl) Ybaz.func3 (by kernel_rfl)
    (of_decide_eq_true (by kernel_rfl)) (by unfold Func.isWrapper; first | (rw [if_pos (by decide +kernel)]; kernel_rfl) | (rw [if_neg (by decide +kernel)]; exact ⟨rfl, rfl⟩))
    (fun os started H enc _ => lifted os started H enc)

/-- ████ THE STATEMENT ████ -/
theorem proved : Rows.LawS3292ATerminatesSaid :=
  over
#print axioms proved
end Go.Proofs.YbulkbpdqGreat.lawS3292ATerminates
