import Derived.Test.YbulkbpcaGreatRow
namespace Go.Proofs.YbulkbpcaGreat
open Go.ChangeShapes Go.WideShapes Go.ChangeAt Go.RowKit
set_option linter.unusedVariables false
attribute [local go_sem ↓] eq_peer
attribute [local go_sem] guard_peer field_key msg_cells rowL_drew rowL_drewN rowL_alloc rowL_setCell load_msg build_sent build_sentSl
attribute [local go_sem ↓] load_msg0 build_sent0 build_sentSl0

def peerC (k a : ByteArray) : Nat → Value := fun j => if j = 0 then .string k else .string a
theorem peer_fresh (w : World) (k a : ByteArray) (t : TypeId) : Blk (w.alloc (.cells #[.string k, .string a] t)) w.heap.size 2 (peerC k a) :=
  (Blk.fresh w #[.string k, .string a] t).congr fun j hj => by
    rcases (show j = 0 ∨ j = 1 from by simp at hj; omega) with rfl | rfl <;> rfl

def zeroC : Nat → Value := fun j => ([.int .u8 0, .int .u8 0, .bool false, .bool false, .string ⟨#[]⟩, .string ⟨#[]⟩, .string ⟨#[]⟩, .string ⟨#[]⟩, .int .u64 0, .string ⟨#[]⟩, .string ⟨#[]⟩, .int .i64 0, .int .i64 0, .int .i64 0, .string ⟨#[]⟩, .string ⟨#[]⟩, .string ⟨#[]⟩, .string ⟨#[]⟩, .string ⟨#[]⟩, .int .i64 0, .pointer none, .string ⟨#[]⟩, .slice none 0 0] : List Value).getD j undef
theorem Ybaz.infoSentZ : (Ybaz.prog.info? 76).map (fun i => (i.zero, i.size, i.bytes)) = some (some (.agg (sA ⟨#[]⟩ ⟨#[]⟩ zeroC)), 25, 304) := by kernel_rfl

def hostV (S K O : Value) : Nat → Value := fun j => if j = 0 then S else if j = 1 then K else O

/-- The host has been sent 'ls', and has noted 'os'; its wakes are K. -/
def HostSt (w : World) (H G : Nat) (K : Value) (ls : List (List Value)) (os : List Value) : Prop :=
  ∃ S O, Blk w H 3 (hostV S K O) ∧ w.ownsRow G 76 25 S ls.length ls.flatten ∧ w.ownsRow G 5 1 O os.length os ∧ (S.ownBlock = none ∨ S.ownBlock ≠ O.ownBlock) ∧ H < G ∧ G ≤ w.heap.size

theorem HostSt.below {w w' : World} {H G : Nat} {K : Value} {ls : List (List Value)} {os : List Value} (h : HostSt w H G K ls os) (hb : Below w.heap.size w w') : HostSt w' H G K ls os := by
  obtain ⟨S, O, h1, h2, h3, h4, h5, h6⟩ := h
  have hg : w.grownBy w' none := ⟨hb.os, hb.tape, hb.output, hb.size, fun k hk _ => hb.block k hk⟩
  refine ⟨S, O, h1.below hb (by omega), h2.kept hg ?_, h3.kept hg ?_, h4, h5, Nat.le_trans h6 hb.size⟩
  · cases h : S.ownBlock <;> simp
  · cases h : O.ownBlock <;> simp

/-- Between the two appends of 'Send'. -/
def SendMid (w : World) (H G : Nat) (K : Value) (ls : List (List Value)) (os : List Value) (k a : ByteArray) (c : Nat → Value) (wx : World) : Prop :=
  HostSt wx H G K (ls ++ [sL k a c]) os ∧ Kp (fun j => j = H ∨ G ≤ j) w wx

theorem send_mid {w w2 w3 : World} {H G g cap : Nat} {ls : List (List Value)} {os : List Value} {S K O : Value} {k a : ByteArray} {c : Nat → Value} (hK2 : Kp (fun j => j = H ∨ G ≤ j) w w2)
    (h1 : Blk w2 H 3 (hostV S K O)) (h2 : w2.ownsRow G 76 25 S ls.length ls.flatten) (h3 : w2.ownsRow G 5 1 O os.length os) (h4 : S.ownBlock = none ∨ S.ownBlock ≠ O.ownBlock) (h5 : H < G) (h6 : G ≤ w2.heap.size)
    (hown : w3.ownsRow G 76 25 (.slice (some ⟨g, 0, none⟩) (ls.length + 1) cap) (ls.length + 1) (ls.flatten ++ sL k a c)) (hgrow : (w2.alloc (.cells (sA k a c) 76)).drew.grownBy w3 S.ownBlock) (hgb : S.ownBlock = some g ∨ g = w2.heap.size + 1) :
    SendMid w H G K ls os k a c (w3.setCell ⟨H, 0, none⟩ (.slice (some ⟨g, 0, none⟩) (ls.length + 1) cap)) := by
  have hSb : ∀ j, S.ownBlock = some j → G ≤ j := fun j hj => (h2.lt j hj).1
  have hk23 : Kp (fun j => j = H ∨ G ≤ j) w2 w3 := (((Kp.refl _ w2).alloc _).drew).grown hgrow (fun j hj _ => .inr (hSb j hj))
  have hHS : ∀ j, S.ownBlock = some j → H ≠ j := fun j hj => by have := hSb j hj; omega
  have hO3 : w3.ownsRow G 5 1 O os.length os := by
    have hO2 : (w2.alloc (.cells (sA k a c) 76)).drew.ownsRow G 5 1 O os.length os := (h3.alloc _).drew
    refine hO2.kept hgrow ?_
    rcases h4 with h | h
    · rw [h]; cases hO : O.ownBlock <;> simp
    · exact .inr (fun e => h e.symm)
  have hgO : O.ownBlock = none ∨ some g ≠ O.ownBlock := by
    rcases hgb with h | h
    · rcases h4 with h' | h'
      · rw [h] at h'; cases h'
      · rw [← h]; exact .inr h'
    · cases hO : O.ownBlock with
      | none => exact .inl rfl
      | some j => right; have := (h3.lt j hO).2; intro e; injection e; omega
  have hs3 : w2.heap.size + 1 ≤ w3.heap.size := by have := hgrow.size; simpa using this
  have hH3 : Blk w3 H 3 (hostV S K O) := (h1.alloc (by omega) (.cells (sA k a c) 76)).drew.block (hgrow.block H (by simp; omega) (fun e => hHS H e.symm rfl))
  have hsetg : w3.grownBy (w3.setCell ⟨H, 0, none⟩ (.slice (some ⟨g, 0, none⟩) (ls.length + 1) cap)) (some H) := ⟨rfl, rfl, rfl, by simp, fun j _ hj => Below.heap_setCell _ _ _ _ (fun e => hj (by rw [e]))⟩
  have hGg : G ≤ g := by
    rcases hgb with h | h
    · exact hSb g h
    · omega
  refine ⟨⟨.slice (some ⟨g, 0, none⟩) (ls.length + 1) cap, O, ?_, ?_, ?_, ?_, h5, by simp; omega⟩, (hK2.trans hk23).setCell (fun _ => .inl rfl) _⟩
  · refine (hH3.set 0 (by omega) _).congr fun j hj => ?_
    rcases (show j = 0 ∨ j = 1 ∨ j = 2 from by omega) with rfl | rfl | rfl <;> rfl
  · have := hown.kept hsetg (.inr (by simp [Value.ownBlock]; omega))
    simpa using this
  · refine hO3.kept hsetg ?_
    cases hO : O.ownBlock with
    | none => exact .inl rfl
    | some j => right; have := (h3.lt j hO).1; intro e; injection e; omega
  · rcases hgO with h | h
    · right; rw [h]; simp [Value.ownBlock]
    · right; simpa [Value.ownBlock] using h

theorem send_end {wc w4 : World} {H G g cap : Nat} {b : Int} {ls : List (List Value)} {os : List Value} {S K O : Value} (h1 : Blk wc H 3 (hostV S K O)) (h2 : wc.ownsRow G 76 25 S ls.length ls.flatten) (h3 : wc.ownsRow G 5 1 O os.length os) (h4 : S.ownBlock = none ∨ S.ownBlock ≠ O.ownBlock) (h5 : H < G) (h6 : G ≤ wc.heap.size)
    (hown : w4.ownsRow G 5 1 (.slice (some ⟨g, 0, none⟩) (os.length + 1) cap) (os.length + 1) (os ++ [.int .u8 b])) (hgrow : (wc.alloc (.cells #[.int .u8 b] 5)).grownBy w4 O.ownBlock) (hgb : O.ownBlock = some g ∨ g = wc.heap.size + 1) :
    HostSt (w4.setCell ⟨H, 2, none⟩ (.slice (some ⟨g, 0, none⟩) (os.length + 1) cap)) H G K ls (os ++ [.int .u8 b]) ∧ Kp (fun j => j = H ∨ G ≤ j) wc (w4.setCell ⟨H, 2, none⟩ (.slice (some ⟨g, 0, none⟩) (os.length + 1) cap)) := by
  have hOb : ∀ j, O.ownBlock = some j → G ≤ j := fun j hj => (h3.lt j hj).1
  have hk : Kp (fun j => j = H ∨ G ≤ j) wc w4 := ((Kp.refl _ wc).alloc _).grown hgrow (fun j hj _ => .inr (hOb j hj))
  have hs4 : wc.heap.size + 1 ≤ w4.heap.size := by have := hgrow.size; simpa using this
  have hH4 : Blk w4 H 3 (hostV S K O) := (h1.alloc (by omega) (.cells #[.int .u8 b] 5)).block (hgrow.block H (by simp; omega) (fun e => by have := hOb H e.symm; omega))
  have hS4 : w4.ownsRow G 76 25 S ls.length ls.flatten := (h2.alloc _).kept hgrow h4
  have hsetg : w4.grownBy (w4.setCell ⟨H, 2, none⟩ (.slice (some ⟨g, 0, none⟩) (os.length + 1) cap)) (some H) := ⟨rfl, rfl, rfl, by simp, fun j _ hj => Below.heap_setCell _ _ _ _ (fun e => hj (by rw [e]))⟩
  have hGg : G ≤ g := by
    rcases hgb with h | h
    · exact hOb g h
    · omega
  refine ⟨⟨S, .slice (some ⟨g, 0, none⟩) (os.length + 1) cap, ?_, ?_, ?_, ?_, h5, by simp; omega⟩, hk.setCell (fun _ => .inl rfl) _⟩
  · refine (hH4.set 2 (by omega) _).congr fun j hj => ?_
    rcases (show j = 0 ∨ j = 1 ∨ j = 2 from by omega) with rfl | rfl | rfl <;> rfl
  · refine hS4.kept hsetg ?_
    cases hO : S.ownBlock with
    | none => exact .inl rfl
    | some j => right; have := (h2.lt j hO).1; intro e; injection e; omega
  · have := hown.kept hsetg (.inr (by simp [Value.ownBlock]; omega))
    simpa using this
  · cases hO : S.ownBlock with
    | none => exact .inl rfl
    | some j =>
      right
      simp only [Value.ownBlock]
      intro e
      injection e with e
      subst e
      rcases hgb with h | h
      · rcases h4 with h' | h'
        · rw [hO] at h'; cases h'
        · exact h' (by rw [hO, h])
      · have := (h2.lt j hO).2; omega

set_option maxRecDepth 100000 in
set_option maxHeartbeats 1000000 in
/-- The host's 'Send'. -/
theorem host_send (H G : Nat) (K : Value) (ls : List (List Value)) (os : List Value) (k a : ByteArray) (c : Nat → Value) (hc : ∀ u ∈ sL k a c, u.oneCell' = true) (w : World) (hs : HostSt w H G K ls os) (hl : ls.length ≤ 10) (ho : os.length ≤ 10) :
    Calls Ybaz.prog 181 #[.pointer (some ⟨H, 0, none⟩), .agg #[.string k, .string a], .agg (mA c)] w fun e w' => e = .returned (.tuple #[]) ∧ HostSt w' H G K (ls ++ [sL k a c]) (os ++ [.int .u8 83]) ∧ Kp (fun j => j = H ∨ G ≤ j) w w' := by
  obtain ⟨i0, hi, hz0, hz1, hz2⟩ := info_parts Ybaz.infoSentZ
  obtain ⟨i1, hi1, hz01, hz11, hz21⟩ := info_parts Ybaz.infoByte
  have HC : Hid (∀ u ∈ sL k a c, u.oneCell' = true) := hc
  clear hc
  have hB2 : Below w.heap.size w ((w.alloc (.cells #[.string k, .string a] 30)).alloc (.cells (mA c) 72)) := ((Below.refl _ w).alloc (Nat.le_refl _) _).alloc (by simp) _
  have hs2 := hs.below hB2
  have hp2 := (peer_fresh w k a 30).alloc (by simp) (.cells (mA c) 72)
  have hm2 := msg_fresh (w.alloc (.cells #[.string k, .string a] 30)) c 72
  rw [World.size_alloc] at hm2
  go_enter Ybaz.func181, Ybaz.ntmps181
  go_wp2
  obtain ⟨P, hP⟩ : ∃ P, P = w.heap.size := ⟨_, rfl⟩
  rw [← hP] at hp2 hm2 ⊢
  have hPl : P + 1 < ((w.alloc (.cells #[.string k, .string a] 30)).alloc (.cells (mA c) 72)).heap.size := by simp; omega
  generalize World.alloc _ (.cells (mA c) 72) = w2 at hs2 hp2 hm2 hB2 hPl ⊢
  have hK2 : Kp (fun j => j = H ∨ G ≤ j) w w2 := Kp.of_below hB2
  have hrow := msg_rowL hm2
  have p0 : w2.cell? ⟨P, 0, none⟩ = some (.string k) := hp2.1 0 (by omega)
  have p1 : w2.cell? ⟨P, 1, none⟩ = some (.string a) := hp2.1 1 (by omega)
  obtain ⟨S, O, h1, h2, h3, h4, h5, h6⟩ := hs2
  have d0 : w2.cell? ⟨H, 0, none⟩ = some S := h1.1 0 (by omega)
  have hH2 : H < w2.heap.size := by omega
  clear hP hs
  go_cut [] from 6 to 17 (fun wx => SendMid w H G K ls os k a c wx)
  case first =>
    go_region_law ((refine step_append_lies _ (by rfl) _ _ 25 (by rfl) G 76 i0 _ 25 304 Ybaz.underlying25 hi hz0 hz1 hz2 rfl (by omega) S ls.length ls.flatten (by rfl) ((h2.alloc _).drew) ⟨w2.heap.size, 0, none⟩ 1 1 (sL k a c) (by rfl) (by rfl) (World.news_of_block (cs := sA k a c) (t := 76) (fr := (0, 0)) (heap_alloc_new w2 _)) HC.out (by omega) (by unfold maxLen; omega) (by omega) (by simp; omega) (w2.heap.size + 1) (by simp) ?_; intro g cap w3 hown hgrow hgb hgl; have HF : Hid _ := send_mid hK2 h1 h2 h3 h4 h5 h6 hown hgrow hgb; have hne : S.ownBlock ≠ some H := (fun e => by have := (h2.lt H e).1; omega); have e0 := (World.cell?_of_block (w := w2) (a := ⟨H, 0, none⟩) ((hgrow.block H (by simp; omega) (fun e => hne e.symm)).trans (Below.heap_alloc w2 _ H hH2))).trans d0; have fe0 := (World.frozen?_of_block (w := w2) (a := ⟨H, 0, none⟩) ((hgrow.block H (by simp; omega) (fun e => hne e.symm)).trans (Below.heap_alloc w2 _ H hH2))).trans (h1.2 0); clear hown hgrow hgb hgl hne))
    all_goals
      go_wp2
      go_meet
      case rel => exact HF.out
  case rest =>
    obtain ⟨⟨S', O', q1, q2, q3, q4, q5, q6⟩, hKc⟩ := hcut
    clear hp2 hm2 hB2 hPl hK2 hrow p0 p1 h1 h2 h3 h4 h5 h6 d0 hH2
    have e2 : wc.cell? ⟨H, 2, none⟩ = some O' := q1.1 2 (by omega)
    have hHc : H < wc.heap.size := by omega
    go_wp2_with (first
      | (at_builtin; refine wpList_append_lies _ rfl _ _ 22 rfl G 5 i1 (.int .u8 0) 1 1 Ybaz.underlying22 hi1 hz01 hz11 hz21 rfl (by decide) _ _ _ rfl (q3.alloc _) ⟨wc.heap.size, 0, none⟩ 1 1 [.int .u8 83] rfl rfl (World.news_of_block (cs := #[.int .u8 83]) (t := 5) (fr := (0, 0)) (heap_alloc_new wc _)) (by simp [Value.oneCell']) (by omega) (by unfold maxLen; omega) (by omega) (by simp; omega) (wc.heap.size + 1) (by simp) ?_)
      | go_in)
    intro g cap w4 hown' hgrow hgb hgl
    have hne : O'.ownBlock ≠ some H := fun e => by have := (q3.lt H e).1; omega
    have hbl := (hgrow.block H (by simp; omega) (fun e => hne e.symm)).trans (Below.heap_alloc wc _ H hHc)
    have e2' := (World.cell?_of_block (w := wc) (a := ⟨H, 2, none⟩) hbl).trans e2
    have fe2 := (World.frozen?_of_block (w := wc) (a := ⟨H, 2, none⟩) hbl).trans (q1.2 2)
    have HF : Hid _ := send_end q1 q2 q3 q4 q5 q6 hown' hgrow hgb
    clear hown' hgrow hgb hgl hne hbl q1 q2 q3 q4 e2
    go_wp2
    go_end0
    exact ⟨rfl, HF.out.1, hKc.trans HF.out.2⟩

theorem wake_mid {w w3 : World} {H G g cap : Nat} {d : Int} {ls : List (List Value)} {os : List Value} {S O : Value} (h1 : Blk w H 3 (hostV S (.slice none 0 0) O)) (h2 : w.ownsRow G 76 25 S ls.length ls.flatten) (h3 : w.ownsRow G 5 1 O os.length os) (h5 : H < G) (h6 : G ≤ w.heap.size)
    (hown : w3.ownsRow G 77 1 (.slice (some ⟨g, 0, none⟩) 1 cap) 1 [.int .i64 d]) (hgrow : (w.alloc (.cells #[.int .i64 d] 77)).grownBy w3 (Value.slice none 0 0).ownBlock) (hgb : (Value.slice none 0 0).ownBlock = some g ∨ g = w.heap.size + 1) :
    Blk (w3.setCell ⟨H, 1, none⟩ (.slice (some ⟨g, 0, none⟩) 1 cap)) H 3 (hostV S (.slice (some ⟨g, 0, none⟩) 1 cap) O) ∧ (w3.setCell ⟨H, 1, none⟩ (.slice (some ⟨g, 0, none⟩) 1 cap)).ownsRow G 76 25 S ls.length ls.flatten ∧ (w3.setCell ⟨H, 1, none⟩ (.slice (some ⟨g, 0, none⟩) 1 cap)).ownsRow G 5 1 O os.length os ∧
    G ≤ (w3.setCell ⟨H, 1, none⟩ (.slice (some ⟨g, 0, none⟩) 1 cap)).heap.size ∧ (w3.setCell ⟨H, 1, none⟩ (.slice (some ⟨g, 0, none⟩) 1 cap)).cell? ⟨g, 0, none⟩ = some (.int .i64 d) ∧ O.ownBlock ≠ some g ∧ g ≠ H ∧ Kp (fun j => j = H ∨ G ≤ j) w (w3.setCell ⟨H, 1, none⟩ (.slice (some ⟨g, 0, none⟩) 1 cap)) := by
  have hg : g = w.heap.size + 1 := by rcases hgb with h | h; cases h; exact h
  have hs3 : w.heap.size + 1 ≤ w3.heap.size := by have := hgrow.size; simpa using this
  have hgn : (w.alloc (.cells #[.int .i64 d] 77)).grownBy w3 none := hgrow
  have hsetg : w3.grownBy (w3.setCell ⟨H, 1, none⟩ (.slice (some ⟨g, 0, none⟩) 1 cap)) (some H) := ⟨rfl, rfl, rfl, by simp, fun j _ hj => Below.heap_setCell _ _ _ _ (fun e => hj (by rw [e]))⟩
  have hH3 : Blk w3 H 3 (hostV S (.slice none 0 0) O) := (h1.alloc (by omega) _).block (hgn.block H (by simp; omega) (by simp))
  have hkeep : ∀ (e sz : Nat) (V : Value) (n : Nat) (xs : List Value), w.ownsRow G e sz V n xs → (w3.setCell ⟨H, 1, none⟩ (.slice (some ⟨g, 0, none⟩) 1 cap)).ownsRow G e sz V n xs := by
    intro e sz V n xs h
    have h' : w3.ownsRow G e sz V n xs := (h.alloc _).kept hgn (by cases hV : V.ownBlock <;> simp)
    refine h'.kept hsetg ?_
    cases hV : V.ownBlock with
    | none => exact .inl rfl
    | some j => right; have := (h.lt j hV).1; intro e; injection e; omega
  refine ⟨?_, hkeep _ _ _ _ _ h2, hkeep _ _ _ _ _ h3, by simp; omega, ?_, ?_, by omega, (((Kp.refl _ w).alloc _).grown hgn (by simp)).setCell (fun _ => .inl rfl) _⟩
  · refine (hH3.set 1 (by omega) _).congr fun j hj => ?_
    rcases (show j = 0 ∨ j = 1 ∨ j = 2 from by omega) with rfl | rfl | rfl <;> rfl
  · rw [World.cell?_setCell_other _ _ _ _ (by intro e; injection e; omega)]
    have := hown.cellAt 0 (by omega)
    simpa using this
  · intro e
    have := (h3.lt g e).2
    omega

set_option maxRecDepth 100000 in
set_option maxHeartbeats 1000000 in
/-- The host's 'Wake', the first. -/
theorem host_wake (H G : Nat) (ls : List (List Value)) (os : List Value) (d : Int) (w : World) (hs : HostSt w H G (.slice none 0 0) ls os) (hl : ls.length ≤ 10) (ho : os.length ≤ 10) :
    Calls Ybaz.prog 182 #[.pointer (some ⟨H, 0, none⟩), .int .i64 d] w fun e w' => e = .returned (.tuple #[]) ∧ (∃ g cap, HostSt w' H G (.slice (some ⟨g, 0, none⟩) 1 cap) ls (os ++ [.int .u8 87]) ∧ w'.cell? ⟨g, 0, none⟩ = some (.int .i64 d)) ∧ Kp (fun j => j = H ∨ G ≤ j) w w' := by
  obtain ⟨i0, hi, hz0, hz1, hz2⟩ := info_parts Ybaz.infoDur
  obtain ⟨i1, hi1, hz01, hz11, hz21⟩ := info_parts Ybaz.infoByte
  obtain ⟨S, O, h1, h2, h3, h4, h5, h6⟩ := hs
  have e1 : w.cell? ⟨H, 1, none⟩ = some (.slice none 0 0) := h1.1 1 (by omega)
  have hHw : H < w.heap.size := by omega
  go_enter Ybaz.func182, Ybaz.ntmps182
  go_wp2_with (first
    | (at_builtin; refine wpList_append_lies _ rfl (.tmp 8) (.tmp 10) 26 rfl G 77 i0 (.int .i64 0) 1 8 Ybaz.underlying26 hi hz0 hz1 hz2 rfl (by decide) _ 0 [] rfl (World.ownsRow_nil _ _ _ _) ⟨w.heap.size, 0, none⟩ 1 1 [.int .i64 d] rfl rfl (World.news_of_block (cs := #[.int .i64 d]) (t := 77) (fr := (0, 0)) (heap_alloc_new w _)) (by simp [Value.oneCell']) (by omega) (by unfold maxLen; omega) (by omega) (by simp; omega) (w.heap.size + 1) (by simp) ?_)
    | go_in)
  intro g cap w3 hown hgrow hgb hgl
  have hbl := (hgrow.block H (by simp; omega) (by simp [Value.ownBlock])).trans (Below.heap_alloc w _ H hHw)
  have e1' := (World.cell?_of_block (w := w) (a := ⟨H, 1, none⟩) hbl).trans e1
  have fe1 := (World.frozen?_of_block (w := w) (a := ⟨H, 1, none⟩) hbl).trans (h1.2 1)
  have hM := wake_mid h1 h2 h3 h5 h6 hown hgrow hgb
  obtain ⟨q1, q2, q3, q4, q5, q6, q7, q8⟩ := hM
  clear hown hgrow hgb hgl hbl h1 h2 h3 e1
  go_upto_region 1 with fail
  generalize w3.setCell ⟨H, 1, none⟩ (.slice (some ⟨g, 0, none⟩) 1 cap) = wc at q1 q2 q3 q4 q5 q6 q8 ⊢
  clear e1' fe1
  have e2 : wc.cell? ⟨H, 2, none⟩ = some O := q1.1 2 (by omega)
  have hHc : H < wc.heap.size := by omega
  go_wp2_with (first
    | (at_builtin; refine wpList_append_lies _ rfl (.tmp 18) (.tmp 19) 22 rfl G 5 i1 (.int .u8 0) 1 1 Ybaz.underlying22 hi1 hz01 hz11 hz21 rfl (by decide) _ _ _ rfl (q3.alloc _) ⟨wc.heap.size, 0, none⟩ 1 1 [.int .u8 87] rfl rfl (World.news_of_block (cs := #[.int .u8 87]) (t := 5) (fr := (0, 0)) (heap_alloc_new wc _)) (by simp [Value.oneCell']) (by omega) (by unfold maxLen; omega) (by omega) (by simp; omega) (wc.heap.size + 1) (by simp) ?_)
    | go_in)
  intro g2 cap2 w4 hown' hgrow hgb hgl
  have hne : O.ownBlock ≠ some H := fun e => by have := (q3.lt H e).1; omega
  have hbl := (hgrow.block H (by simp; omega) (fun e => hne e.symm)).trans (Below.heap_alloc wc _ H hHc)
  have e2' := (World.cell?_of_block (w := wc) (a := ⟨H, 2, none⟩) hbl).trans e2
  have fe2 := (World.frozen?_of_block (w := wc) (a := ⟨H, 2, none⟩) hbl).trans (q1.2 2)
  have hgc : g < wc.heap.size := World.block_lt_of_cell? _ ⟨g, 0, none⟩ q5
  have HG : Hid ((w4.setCell ⟨H, 2, none⟩ (.slice (some ⟨g2, 0, none⟩) (os.length + 1) cap2)).cell? ⟨g, 0, none⟩ = some (.int .i64 d)) := by
    show _ = _
    rw [World.cell?_setCell_other _ _ _ _ (by intro e; injection e; omega), World.cell?_of_block (w := wc) ((hgrow.block g (by simp; omega) (fun e => q6 e.symm)).trans (Below.heap_alloc wc _ g hgc))]
    exact q5
  have HF : Hid _ := send_end q1 q2 q3 h4 h5 q4 hown' hgrow hgb
  clear hown' hgrow hgb hgl hne hbl q1 q2 q3 h4 e2 q5
  go_wp2
  go_end0
  exact ⟨rfl, ⟨g, cap, HF.out.1, HG.out⟩, q8.trans HF.out.2⟩
end Go.Proofs.YbulkbpcaGreat
