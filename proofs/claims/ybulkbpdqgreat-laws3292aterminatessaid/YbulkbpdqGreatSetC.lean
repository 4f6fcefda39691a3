import Derived.Test.YbulkbpdqGreatSetB
import Derived.Deep.OwnRows
namespace Go.Proofs.YbulkbpdqGreat
open Go.ChangeShapes Go.WideShapes Go.ChangeAt Go.RowKit
set_option linter.unusedVariables false

/-- What the head has laid. -/
structure Pre (D : Drawn) (ag : Bool) (nb N MI MV TS OG SR : Nat) (c : Nat → Value) (w2 : World) : Prop where
  n : D.n ≤ 300
  src : ∀ k j, k < D.n → D.src k = some j → j < D.n
  qn : Blk w2 nb 1 (fun _ => .int .i64 D.n)
  qN : Blk w2 N 209 c
  qt : Blk w2 TS D.n (fun i => ptr (D.b1 + i))
  qo : Blk w2 OG D.n (fun i => .string (D.og i))
  qs : Blk w2 SR D.n (fun i => .int .i64 (match D.src i with | some j => (j : Int) | none => -1))
  mv : MapF Value.string w2 MV (fun _ => none)
  c2 : c 2 = .string (stB ag)
  c3 : c 3 = .map (some MI)
  c4 : c 4 = .map (some MV)
  c5 : c 5 = .int .i32 0
  c7 : c 7 = .slice none 0 0
  c11 : c 11 = .slice none 0 0
  c206 : c 206 = .slice none 0 0
  c208 : c 208 = .pointer none
  lt : nb < D.b1 ∧ N < D.b1 ∧ MI < D.b1 ∧ MV < D.b1 ∧ TS < D.b1 ∧ OG < D.b1 ∧ SR < D.b1
  ne : nb ≠ MI ∧ N ≠ MI ∧ MV ≠ MI ∧ TS ≠ MI ∧ OG ≠ MI ∧ SR ≠ MI ∧ N ≠ MV ∧ nb ≠ N ∧ nb ≠ MV ∧ TS ≠ N ∧ TS ≠ MV ∧ OG ≠ N ∧ OG ≠ MV ∧ SR ≠ N ∧ SR ≠ MV
  p2 : P2 D MI w2 0 (fun _ => 0) w2

/-- The state while the readers are laid. -/
def s3 (D : Drawn) (c : Nat → Value) (k : Nat) : Sta where
  ph := D.og
  rd := fun i => decide (i < k) && (D.src i).isSome
  wr := fun _ => true
  cd := fun _ => false
  ow := fun _ => true
  rl := fun i => if i < k then (D.src i).map (fun _ => true) else none
  it := fun _ => true
  ve := fun _ => false
  L := []
  c := c
  m := 0

theorem s3_rd (D : Drawn) (c : Nat → Value) {k i : Nat} (h : i ≠ k ∨ D.src i = none) : (s3 D c (k + 1)).rd i = (s3 D c k).rd i := by
  show (decide (i < k + 1) && (D.src i).isSome) = (decide (i < k) && (D.src i).isSome)
  rcases h with h | h
  · have : (i < k + 1) = (i < k) := propext (by omega)
    simp only [this]
  · simp [h]
theorem s3_rl (D : Drawn) (c : Nat → Value) {k i : Nat} (h : i ≠ k ∨ D.src i = none) : (s3 D c (k + 1)).rl i = (s3 D c k).rl i := by
  show (if i < k + 1 then (D.src i).map (fun _ => true) else none) = (if i < k then (D.src i).map (fun _ => true) else none)
  rcases h with h | h
  · have : (i < k + 1) = (i < k) := propext (by omega)
    simp only [this]
  · simp [h]
theorem s3_skip (D : Drawn) (c : Nat → Value) {k : Nat} (h : D.src k = none) : s3 D c (k + 1) = s3 D c k := by
  have h1 : (s3 D c (k + 1)).rd = (s3 D c k).rd := funext fun i => s3_rd D c (by by_cases e : i = k; exact .inr (e ▸ h); exact .inl e)
  have h2 : (s3 D c (k + 1)).rl = (s3 D c k).rl := funext fun i => s3_rl D c (by by_cases e : i = k; exact .inr (e ▸ h); exact .inl e)
  unfold s3 at h1 h2 ⊢
  simp only at h1 h2
  rw [h1, h2]

theorem Holds.lt {E : Env} {s : Sta} {w : World} {l : Loc} (hl : E.ok l) (h : Holds E s w l) : E.ad l < w.heap.size := by
  cases l with
  | sch => exact Blk.lt h (by omega)
  | mi => obtain ⟨F, h1, h2⟩ := h; exact h1.lt
  | mv => obtain ⟨F, h1, h2⟩ := h; exact h1.lt
  | tx k => exact Blk.lt h.1 (by omega)
  | im k => exact Blk.lt h (by omega)
  | mr k => obtain ⟨F, h1, h2⟩ := h; exact h1.lt
  | rs k =>
    cases hs : E.src k with
    | none => exact absurd hs hl.2
    | some j => exact Blk.lt (h j hs) (by omega)
  | ws k => exact Blk.lt h (by omega)

/-- Behind k readers. -/
structure P3 (D : Drawn) (R : Nat → Nat) (N MI MV : Nat) (ag : Bool) (c : Nat → Value) (w3 : World) (k : Nat) (wr : World) : Prop where
  loc : ∀ l, (envOf D R N MI MV ag).ok l → (∀ i, l = .rs i → i < k) → Holds (envOf D R N MI MV ag) (s3 D c k) wr l
  sz : wr.heap.size = D.b3 + rsN D k
  kp : Kp (fun b => D.b1 ≤ b ∧ b ≠ D.b1 + D.n) w3 wr

theorem P3.start {D : Drawn} {ag : Bool} {nb N MI MV TS OG SR : Nat} {c : Nat → Value} {w2 w3 : World} {R : Nat → Nat} (hP : Pre D ag nb N MI MV TS OG SR c w2) (h : P2 D MI w2 D.n R w3) : P3 D R N MI MV ag c w3 0 w3 := by
  have hb2 : D.b2 = D.b1 + D.n + 1 := rfl
  have hlt := hP.lt
  have hne := hP.ne
  have hw2 := hP.p2.sz
  refine ⟨fun l hl hr => ?_, by rw [h.sz]; show D.b2 + 4 * D.n = D.b2 + 4 * D.n + cnt 0 _; simp [cnt], Kp.refl _ _⟩
  have hk : ∀ b, b < D.b1 → b ≠ MI → w3.heap[b]? = w2.heap[b]? := fun b hb he => h.kp.block b (by omega) (by omega)
  cases l with
  | sch => exact hP.qN.block (hk N (by omega) (by omega))
  | mi =>
    obtain ⟨F, h1, h2⟩ := h.it
    exact ⟨F, h1, fun k hk => (h2 k hk).trans (by rw [if_pos (show k < D.n from hk)]; rfl)⟩
  | mv => exact ⟨_, hP.mv.block (hk MV (by omega) (by omega)), fun k hk => rfl, fun x hx => by cases hx⟩
  | tx k =>
    have ht := h.tx k hl
    refine ⟨ht.1.congr fun j hj => ?_, ht.2⟩
    rw [if_pos (show k < D.n from hl)]
    have e : (s3 D c 0).rd k = false := by show (decide (k < 0) && (D.src k).isSome) = false; simp
    show _ = txOf _ _ _ j
    unfold txOf
    rw [e]
    rfl
  | im k => exact h.im k hl
  | mr k =>
    refine ⟨_, h.mr k hl, fun i hi => ?_, fun b hb => by cases hb⟩
    have e : (s3 D c 0).rl i = none := by show (if i < 0 then (D.src i).map (fun _ => true) else none) = none; simp
    rw [e]
    simp
  | rs k => exact absurd (hr k rfl) (by omega)
  | ws k => exact h.ws k hl

theorem P3.skip {D : Drawn} {R : Nat → Nat} {N MI MV : Nat} {ag : Bool} {c : Nat → Value} {w3 wr : World} {k : Nat} (h : P3 D R N MI MV ag c w3 k wr) (hs : D.src k = none) : P3 D R N MI MV ag c w3 (k + 1) wr := by
  refine ⟨fun l hl hr => ?_, ?_, h.kp⟩
  · rw [s3_skip D c hs]
    refine h.loc l hl fun i e => ?_
    have h1 := hr i e
    subst e
    have h2 : i ≠ k := fun e => hl.2 (by subst e; exact hs)
    omega
  · rw [h.sz]; unfold rsN; rw [cnt_step, hs]; rfl

theorem P3.read {D : Drawn} {R : Nat → Nat} {N MI MV : Nat} {ag : Bool} {c : Nat → Value} {w3 w : World} {k j : Nat} (W : (envOf D R N MI MV ag).Wf) (h : P3 D R N MI MV ag c w3 k w) (hR : ∀ i, i < D.n → D.b2 + 4 * i ≤ R i ∧ R i ≤ D.b2 + 4 * i + 1) (hk : k < D.n) (hs : D.src k = some j) {F : Nat → Option Value} (hRd : RdF (envOf D R N MI MV ag) (s3 D c k) j F) {wB : World} (hFB : MapF ptr wB (R j) (updF F (D.b1 + k) (some (.string rlNewB)))) (hKB : Kp (fun b => b = R j) w wB) (hsB : wB.heap.size = w.heap.size) :
    P3 D R N MI MV ag c w3 (k + 1) ((wB.setCell ⟨D.b1 + k, 15, none⟩ (.slice (some ⟨D.b3 + rsN D k, 0, none⟩) 1 1)).alloc (.cells #[ptr (D.b2 + 4 * j + 2)] 52)) := by
  have hb2 : D.b2 = D.b1 + D.n + 1 := rfl
  have hb3 : D.b3 = D.b2 + 4 * D.n := rfl
  have hjn : j < D.n := W.src k j hk hs
  have hRj := hR j hjn
  have hsz := h.sz
  have hsz1 : rsN D (k + 1) = rsN D k + 1 := by unfold rsN; rw [cnt_step, hs]; rfl
  have hkeep : ∀ b, b < w.heap.size → b ≠ R j → b ≠ D.b1 + k → ((wB.setCell ⟨D.b1 + k, 15, none⟩ (.slice (some ⟨D.b3 + rsN D k, 0, none⟩) 1 1)).alloc (.cells #[ptr (D.b2 + 4 * j + 2)] 52)).heap[b]? = w.heap[b]? := fun b hb h1 h2 => by
    rw [Below.heap_alloc _ _ _ (by simp; omega), Below.heap_setCell _ _ _ _ h2, hKB.block b hb h1]
  refine ⟨fun l hl hr => ?_, by simp; omega, h.kp.trans ⟨hKB.os, hKB.tape, hKB.output, by simp; omega, fun b hb hP => hkeep b hb (fun e => hP ⟨by omega, by omega⟩) (fun e => hP ⟨by omega, by omega⟩)⟩⟩
  have gen : (∀ e : l = .tx k, False) → (∀ e : l = .mr j, False) → (∀ e : l = .rs k, False) → Holds (envOf D R N MI MV ag) (s3 D c k) ((wB.setCell ⟨D.b1 + k, 15, none⟩ (.slice (some ⟨D.b3 + rsN D k, 0, none⟩) 1 1)).alloc (.cells #[ptr (D.b2 + 4 * j + 2)] 52)) l := fun n1 n2 n3 => by
    have h0 := h.loc l hl (fun i e => by
      have := hr i e
      have : i ≠ k := fun e2 => n3 (by rw [e, e2])
      omega)
    refine h0.block (hkeep _ (h0.lt hl) (fun e => n2 (W.inj l (.mr j) hl hjn e)) (fun e => n1 (W.inj l (.tx k) hl hk e)))
  cases l with
  | sch => exact gen nofun nofun nofun
  | mi => exact gen nofun nofun nofun
  | mv => exact gen nofun nofun nofun
  | im i => exact gen nofun nofun nofun
  | ws i => exact gen nofun nofun nofun
  | tx i =>
    by_cases e : i = k
    · subst e
      have ht : Blk w (D.b1 + i) 19 (txOf (envOf D R N MI MV ag) (s3 D c i) i) ∧ Raw w (D.b1 + i) := h.loc (.tx i) hl nofun
      have hbw := hKB.block (D.b1 + i) ht.2.lt (by omega)
      have hb1 := (ht.1.block hbw).set 15 (by omega) (.slice (some ⟨D.b3 + rsN D i, 0, none⟩) 1 1)
      have hr1 := (ht.2.block hbw).setCell (D.b1 + i) 15 (.slice (some ⟨D.b3 + rsN D i, 0, none⟩) 1 1)
      have hal := Below.heap_alloc (wB.setCell ⟨D.b1 + i, 15, none⟩ (.slice (some ⟨D.b3 + rsN D i, 0, none⟩) 1 1)) (.cells #[ptr (D.b2 + 4 * j + 2)] 52) (D.b1 + i) (by have := ht.2.lt; simp; omega)
      refine ⟨(hb1.block hal).congr fun q hq => ?_, hr1.block hal⟩
      have e1 : (s3 D c (i + 1)).rd i = true := by show (decide (i < i + 1) && (D.src i).isSome) = true; rw [hs]; simp
      show upd (txOf _ _ _) 15 _ q = txOf _ _ _ q
      unfold txOf
      rw [txC_rd _ _ _ _ _ _ q hq, e1]
      rfl
    · have h0 := gen (fun e' => by injection e' with e'; exact e e') nofun nofun
      refine ⟨h0.1.congr fun q hq => ?_, h0.2⟩
      unfold txOf
      rw [s3_rd D c (.inl e)]
      rfl
  | mr i =>
    by_cases e : i = j
    · subst e
      have hRl := hFB.lt
      refine ⟨_, (hFB.block (Below.heap_setCell _ _ _ _ (show R i ≠ D.b1 + k by omega))).block (Below.heap_alloc _ _ _ (by simpa using hRl)), fun q hq => ?_, fun b hb => ?_⟩
      · show updF F (D.b1 + k) (some (.string rlNewB)) (D.b1 + q) = _
        unfold updF
        by_cases e2 : q = k
        · subst e2
          have e3 : (s3 D c (q + 1)).rl q = some true := by show (if q < q + 1 then (D.src q).map (fun _ => true) else none) = some true; rw [hs]; simp
          rw [e3, if_pos rfl, if_pos (show (envOf D R N MI MV ag).src q = some i from hs)]
          rfl
        · rw [if_neg (by omega), s3_rl D c (.inl e2)]
          exact hRd.1 q hq
      · unfold updF at hb
        by_cases e2 : b = D.b1 + k
        · exact ⟨k, hk, e2⟩
        · rw [if_neg e2] at hb
          exact hRd.2 b hb
    · obtain ⟨F', h1, h2, h3⟩ := gen nofun (fun e' => by injection e' with e'; exact e e') nofun
      refine ⟨F', h1, fun q hq => ?_, h3⟩
      rw [h2 q hq]
      by_cases e2 : q = k
      · subst e2
        have e3 : ¬ (envOf D R N MI MV ag).src q = some i := fun e4 => e (by have e5 : D.src q = some i := e4; rw [hs] at e5; injection e5 with e5; exact e5.symm)
        rw [if_neg e3, if_neg e3]
      · rw [s3_rl D c (.inl e2)]
  | rs i =>
    by_cases e : i = k
    · subst e
      intro j' hj'
      have e5 : D.src i = some j' := hj'
      rw [hs] at e5
      injection e5 with e5
      subst e5
      have hb := Blk.fresh (wB.setCell ⟨D.b1 + i, 15, none⟩ (.slice (some ⟨D.b3 + rsN D i, 0, none⟩) 1 1)) #[ptr (D.b2 + 4 * j + 2)] 52
      rw [World.size_setCell, hsB, hsz] at hb
      exact hb.congr fun q hq => by have h0 : q = 0 := (by simpa using hq); subst h0; rfl
    · exact gen nofun nofun (fun e' => by injection e' with e'; exact e e')

theorem P3.st {D : Drawn} {ag : Bool} {nb N MI MV TS OG SR : Nat} {c : Nat → Value} {w2 w3 w : World} {R : Nat → Nat} (hP : Pre D ag nb N MI MV TS OG SR c w2) (h : P3 D R N MI MV ag c w3 D.n w) : St (envOf D R N MI MV ag) (s3 D c D.n) w := by
  refine ⟨fun l hl => h.loc l hl (fun i e => by subst e; exact hl.1), ⟨hP.c2, hP.c3, hP.c4, hP.c5, hP.c7, hP.c208⟩, ?_, ⟨[], ?_⟩, fun b hb => ?_, (fun k hk => by cases hk), Nat.le_of_eq h.sz.symm⟩
  · show World.ownsRow _ _ _ _ (c 206) 0 []
    rw [hP.c206]; exact World.ownsRow_nil _ _ _ _
  · show World.ownsRow _ _ _ _ (c 11) 0 []
    rw [hP.c11]; exact World.ownsRow_nil _ _ _ _
  · have hb' : (c 206).ownBlock = some b := hb
    rw [hP.c206] at hb'; cases hb'

/-- Behind k candidates. -/
structure P4 (E : Env) (D : Drawn) (c : Nat → Value) (w4 : World) (k : Nat) (s : Sta) (wr : World) : Prop where
  st : St E s wr
  li : LInv E s
  cd : ∀ i, i < D.n → s.cd i = decide (i < k)
  eq : s.ph = D.og ∧ s.rd = (s3 D c D.n).rd ∧ s.wr = (fun _ => true) ∧ s.ow = (fun _ => true) ∧ s.rl = (s3 D c D.n).rl ∧ s.it = (fun _ => true) ∧ s.ve = (fun _ => false) ∧ s.m = 0
  kp : Kp E.Own w4 wr

theorem P4.start {E : Env} {D : Drawn} {c : Nat → Value} {w4 : World} (h : St E (s3 D c D.n) w4) : P4 E D c w4 0 (s3 D c D.n) w4 :=
  ⟨h, ⟨List.nodup_nil, fun r _ => ⟨(fun h => by cases h), (fun h => by cases h)⟩⟩, fun i _ => by show false = _; simp, ⟨rfl, rfl, rfl, rfl, rfl, rfl, rfl, rfl⟩, Kp.refl _ _⟩

theorem P4.step {E : Env} {D : Drawn} {c : Nat → Value} {w4 w w' : World} {k : Nat} {s s' : Sta} (hn : E.n = D.n) (hk : k < D.n) (h : P4 E D c w4 k s w) (hc : Cand s k s') (hs : St E s' w') (hK : Kp (fun b => b = E.ad .sch ∨ b = E.ad (.tx k) ∨ (s.c 206).ownBlock = some b) w w') : P4 E D c w4 (k + 1) s' w' := by
  obtain ⟨hi, hcd⟩ := h.li.cand (by omega) hc
  refine ⟨hs, hi, fun i hi' => ?_, ?_, h.kp.trans (hK.mono fun b hb => ?_)⟩
  · rw [hcd]
    unfold setB
    by_cases e : i = k
    · subst e; simp
    · have : (i < k + 1) = (i < k) := propext (by omega)
      simp only [e, if_false, this]
      exact h.cd i hi'
  · rcases hc with ⟨_, rfl⟩ | ⟨_, V, L, _, rfl⟩
    · exact h.eq
    · exact h.eq
  · rcases hb with rfl | rfl | hb
    · exact .inr ⟨.sch, trivial, rfl⟩
    · exact .inr ⟨.tx k, show k < E.n by omega, rfl⟩
    · exact .inl (h.st.hp.lt b hb).1

theorem P4.len {E : Env} {D : Drawn} {c : Nat → Value} {w4 w : World} {k : Nat} {s : Sta} (W : E.Wf) (h : P4 E D c w4 k s w) : s.L.length ≤ 1000 := by
  have := nodup_len E.n s.L h.li.nd h.st.ix
  have := W.n
  omega

theorem P4.inv {D : Drawn} {R : Nat → Nat} {N MI MV : Nat} {ag : Bool} {c : Nat → Value} {w4 w : World} {s : Sta} (h : P4 (envOf D R N MI MV ag) D c w4 D.n s w) : Inv (envOf D R N MI MV ag) D.og s := by
  obtain ⟨e1, e2, e3, e4, e5, e6, e7, e8⟩ := h.eq
  refine ⟨⟨fun k hk => by rw [e3, e4], fun k hk => by rw [e7, e4]; rfl, fun k hk => by rw [e1, e4]; rfl, fun k hk => ?_, fun k hk => ?_, fun k hk => by rw [e6, e4]; rfl, h.li⟩, fun k hk ho => ?_, fun k hk _ _ _ => ?_, ?_⟩
  · rw [e2, e4]
    show (decide (k < D.n) && (D.src k).isSome) = (true && (D.src k).isSome)
    rw [decide_eq_true (show k < D.n from hk)]
  · rw [e5, e4]
    show (if k < D.n then (D.src k).map (fun _ => true) else none) = (if true = true then (D.src k).map (fun _ => true) else none)
    rw [if_pos (show k < D.n from hk), if_pos rfl]
  · rw [e4] at ho; cases ho
  · rw [h.cd k hk]; exact decide_eq_true hk
  · rw [e8]
    unfold alive
    rw [e4]
    show 0 + ((List.range D.n).filter fun _ => true).length = D.n
    rw [Nat.zero_add, List.filter_eq_self.2 (fun _ _ => rfl), List.length_range]

/-- What the law keeps aside is none of the scheduler's. -/
theorem notOwn {D : Drawn} {ag : Bool} {nb N MI MV TS OG SR : Nat} {c : Nat → Value} {w2 : World} {R : Nat → Nat} (hP : Pre D ag nb N MI MV TS OG SR c w2) (hR : ∀ i, i < D.n → D.b2 + 4 * i ≤ R i ∧ R i ≤ D.b2 + 4 * i + 1) {b : Nat} (hb : (b < D.b1 ∧ b ≠ N ∧ b ≠ MI ∧ b ≠ MV) ∨ b = D.b1 + D.n) : ¬ (envOf D R N MI MV ag).Own b := by
  have hb2 : D.b2 = D.b1 + D.n + 1 := rfl
  have hb3 : D.b3 = D.b2 + 4 * D.n := rfl
  have hlt := hP.lt
  rintro (h | ⟨l, hl, e⟩)
  · have h' : D.b3 + rsN D D.n ≤ b := h
    omega
  · cases l <;> simp only [envOf, adOf, Env.ok] at e hl <;> first
      | omega
      | (have := hR _ hl; omega)

/-- The law's arrays behind the readers. -/
theorem arr_of {D : Drawn} {ag : Bool} {nb N MI MV TS OG SR : Nat} {c : Nat → Value} {w2 w3 w4 : World} {R : Nat → Nat} (hP : Pre D ag nb N MI MV TS OG SR c w2) (h2 : P2 D MI w2 D.n R w3) (h3 : Kp (fun b => D.b1 ≤ b ∧ b ≠ D.b1 + D.n) w3 w4) : Arr (envOf D R N MI MV ag) D.og nb TS OG SR (D.b1 + D.n) w4 := by
  have hb2 : D.b2 = D.b1 + D.n + 1 := rfl
  have hlt := hP.lt
  have hne := hP.ne
  have hw2 := hP.p2.sz
  have hw3 := h2.sz
  have hs := h3.size
  have hk : ∀ b, b < D.b1 → b ≠ MI → w4.heap[b]? = w2.heap[b]? := fun b hb he => (h3.block b (by omega) (by omega)).trans (h2.kp.block b (by omega) (by omega))
  refine ⟨hP.qn.block (hk nb (by omega) (by omega)), hP.qt.block (hk TS (by omega) (by omega)), hP.qo.block (hk OG (by omega) (by omega)), (hP.qs.block (hk SR (by omega) (by omega))).congr fun i hi => ?_, (h2.is.block (h3.block _ (by omega) (by omega))).congr fun i hi => ?_, by omega, by omega, by omega, by omega, by omega⟩
  · show Value.int .i64 _ = Value.int .i64 (srcZ _ i)
    unfold srcZ
    rfl
  · rw [if_pos hi]; rfl
theorem made_blk (w : World) (z : Value) (n : Nat) (e : TypeId) : Blk (w.alloc (.cells (madeCells #[z] n) e)) w.heap.size n (fun _ => z) := by
  have h := Blk.fresh w (madeCells #[z] n) e
  rw [size_madeCells] at h
  exact h.congr fun j hj => by simp [madeCells, hj, Nat.mod_one, Array.getD]
theorem mk4 : (Ybaz.prog.info? 4).map (fun i => (i.zero, i.size, i.bytes)) = some (some (.bool false), 1, 1) := by kernel_rfl
end Go.Proofs.YbulkbpdqGreat
