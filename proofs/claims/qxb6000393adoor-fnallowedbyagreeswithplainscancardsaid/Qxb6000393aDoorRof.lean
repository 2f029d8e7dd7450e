/-
  zzRulesOf, walked.
-/
import Derived.Test.Qxb6000393aDoorAllow
namespace Go.Proofs.Qxb6000393aDoor
open Go.RowKit

/-- The statements, their places aside. -/
def Same (sts : List PS) (Z : List ZS) : Prop := sts.map (fun s => s.2.2) = Z.map fun z => (z.1, z.2.1, z.2.2.1)
theorem Same.len {sts : List PS} {Z : List ZS} (h : Same sts Z) : sts.length = Z.length := by
  have := congrArg List.length h
  simpa using this

/-- The statements of a slice, each with its place. -/
def plc (b o : Nat) (Z : List ZS) : List PS := (List.range Z.length).map fun j => (b, o + j * 3, (Z[j]?.getD z0).1, (Z[j]?.getD z0).2.1, (Z[j]?.getD z0).2.2.1)
theorem plc_len (b o : Nat) (Z : List ZS) : (plc b o Z).length = Z.length := by simp [plc]
theorem plc_at (b o : Nat) (Z : List ZS) (j : Nat) (h : j < Z.length) : (plc b o Z)[j]?.getD ps0 = (b, o + j * 3, (Z[j]?.getD z0).1, (Z[j]?.getD z0).2.1, (Z[j]?.getD z0).2.2.1) := by
  simp [plc, h]
theorem plc_same (b o : Nat) (Z : List ZS) : Same (plc b o Z) Z := by
  unfold Same
  apply List.ext_getElem?
  intro j
  by_cases h : j < Z.length
  · rw [List.getElem?_map, List.getElem?_map, List.getElem?_eq_getElem h, List.getElem?_eq_getElem (by rw [plc_len]; exact h)]
    have := plc_at b o Z j h
    rw [List.getElem?_eq_getElem (by rw [plc_len]; exact h), List.getElem?_eq_getElem h] at this
    have this : (plc b o Z)[j]'(by rw [plc_len]; exact h) = (b, o + j * 3, (Z[j]).1, (Z[j]).2.1, (Z[j]).2.2.1) := this
    simp [this]
  · rw [List.getElem?_eq_none (by rw [List.length_map, plc_len]; omega), List.getElem?_eq_none (by rw [List.length_map]; omega)]
theorem Sts.parts {w : World} {p : Option Addr} {n c : Nat} {Z : List ZS} (h : Sts w (.slice p n c) Z) : ∃ b o, (0 < Z.length → p = some ⟨b, o, none⟩) ∧ n = Z.length := by
  obtain ⟨p', c', e, h⟩ := h
  cases e
  by_cases h0 : 0 < Z.length
  · obtain ⟨b, o, h1, _⟩ := h h0
    exact ⟨b, o, fun _ => h1, rfl⟩
  · exact ⟨0, 0, fun h => absurd h h0, rfl⟩
theorem Sts.placed {w : World} {p : Option Addr} {n c b o : Nat} {Z : List ZS} (h : Sts w (.slice p n c) Z) (hp : 0 < Z.length → p = some ⟨b, o, none⟩) : StsP w (.slice p n c) (plc b o Z) := by
  obtain ⟨p', c', e, h⟩ := h
  cases e
  refine ⟨p, c, by rw [plc_len], fun h0 => ⟨b, o, hp (by rw [plc_len] at h0; exact h0), fun j hj => ?_⟩, fun s hs => ?_⟩
  · rw [plc_len] at hj
    rw [plc_at b o Z j hj]
    exact ⟨rfl, rfl⟩
  · obtain ⟨j, hj, rfl⟩ := List.getElem_of_mem hs
    rw [plc_len] at hj
    obtain ⟨b', o', h1, h2⟩ := h (by omega)
    have he := hp (by omega)
    rw [he] at h1
    cases h1
    have := h2 j hj
    have e := plc_at b o Z j hj
    rw [List.getElem?_eq_getElem (by rw [plc_len]; exact hj)] at e
    have e : (plc b o Z)[j]'(by rw [plc_len]; exact hj) = (b, o + j * 3, (Z[j]?.getD z0).1, (Z[j]?.getD z0).2.1, (Z[j]?.getD z0).2.2.1) := e
    rw [e]
    exact this

theorem StsP.okk {w : World} {v : Value} {sts : List PS} (h : StsP w v sts) : ∀ s ∈ sts, PS.ok w s := by
  obtain ⟨p, c, _, _, h⟩ := h
  exact h

/-- The rules of the parts below k. -/
def RK (Z : List ZS) (B : Nat) (w : World) (v : Value) (k : Nat) (wr : World) : Prop :=
  ∃ (SL : List (List PS)) (vs : List Value), SL.length = k ∧ vs.length = k ∧ wr.ownsRow B 53 1 v k vs ∧ Below B w wr ∧
    (∀ j, j < k → Same (SL[j]?.getD []) (ofPart Z j) ∧ (∀ s ∈ SL[j]?.getD [], Fr wr fun w' => PS.ok w' s) ∧ ∃ r, vs[j]? = some (.pointer (some ⟨r, 0, none⟩)) ∧ Fr wr fun w' => RulesAt w' (.pointer (some ⟨r, 0, none⟩)) (pairs (SL[j]?.getD [])) (quots (SL[j]?.getD [])))

theorem RK.below {Z : List ZS} {B : Nat} {w : World} {v : Value} {k : Nat} {wr w' : World} (h : RK Z B w v k wr) (hb : B ≤ wr.heap.size) (hB : Below wr.heap.size wr w') : RK Z B w v k w' := by
  obtain ⟨SL, vs, h1, h2, h3, h4, h5⟩ := h
  refine ⟨SL, vs, h1, h2, own_below h3 hB, h4.trans (hB.mono hb), fun j hj => ?_⟩
  obtain ⟨a1, a2, r, a3, a4⟩ := h5 j hj
  exact ⟨a1, fun s hs => (a2 s hs).below hB, r, a3, a4.below hB⟩

theorem RK.push {Z : List ZS} {B : Nat} {w : World} {v : Value} {k : Nat} {wr : World} (h : RK Z B w v k wr) (hb : B ≤ wr.heap.size) (sts : List PS) (hsame : Same sts (ofPart Z k)) (hok : ∀ s ∈ sts, Fr wr fun w' => PS.ok w' s) (r : Nat) (hr : Fr wr fun w' => RulesAt w' (.pointer (some ⟨r, 0, none⟩)) (pairs sts) (quots sts)) :
    ∃ vs, wr.ownsRow B 53 1 v k vs ∧ ∀ o g cap w5, w5.ownsRow B 53 1 (.slice (some ⟨g, 0, none⟩) (k + 1) cap) (k + 1) (vs ++ [.pointer (some ⟨r, 0, none⟩)]) → (wr.alloc o).grownBy w5 v.ownBlock → RK Z B w (.slice (some ⟨g, 0, none⟩) (k + 1) cap) (k + 1) w5 := by
  obtain ⟨SL, vs, h1, h2, h3, h4, h5⟩ := h
  refine ⟨vs, h3, fun o g cap w5 ho hg => ?_⟩
  have hg' := grown_of_alloc hg
  have hst : ∀ {P : World → Prop}, Fr wr P → Fr w5 P := fun h => h.step hg'.size fun b o hb hno => hg'.block b (lt_of_heap hb) fun e => by
    obtain ⟨_, cs, hc⟩ := own_tag h3 e.symm
    rw [hb] at hc
    exact hno cs (Option.some.inj hc)
  refine ⟨SL ++ [sts], vs ++ [.pointer (some ⟨r, 0, none⟩)], by simp [h1], by simp [h2], ho, h4.grown hg' hb fun k hk => (own_tag h3 hk).1, fun j hj => ?_⟩
  by_cases hjk : j < k
  · obtain ⟨a1, a2, r', a3, a4⟩ := h5 j hjk
    rw [List.getElem?_append_left (by omega), List.getElem?_append_left (by omega)]
    exact ⟨a1, fun s hs => hst (a2 s hs), r', a3, hst a4⟩
  · obtain rfl : j = k := by omega
    rw [List.getElem?_append_right (by omega), List.getElem?_append_right (by omega), h1, h2, Nat.sub_self]
    exact ⟨hsame, fun s hs => hst (hok s hs), r, rfl, hst hr⟩

def rsOf (sts : List PS) : RS := (pairs sts, quots sts)
def RofPost (Z : List ZS) (w : World) (e : Ending) (w' : World) : Prop := ∃ (v : Value) (SL : List (List PS)), e = .returned v ∧ RulesL w' v (SL.map rsOf) ∧ SL.length = 3 ∧ (∀ j, j < 3 → Same (SL[j]?.getD []) (ofPart Z j) ∧ ∀ s ∈ SL[j]?.getD [], PS.ok w' s) ∧ Below w.heap.size w w'
theorem RK.done {Z : List ZS} {w : World} {v : Value} {wr : World} (h : RK Z w.heap.size w v 3 wr) : RofPost Z w (.returned v) wr := by
  obtain ⟨SL, vs, h1, h2, h3, h4, h5⟩ := h
  refine ⟨v, SL, rfl, ?_, h1, fun j hj => ?_, h4⟩
  · obtain ⟨p, c, rfl, hr⟩ := row_form' h3
    refine ⟨p, c, by rw [List.length_map, h1], fun _ => ?_⟩
    obtain ⟨g, cs, _, hp, hg, hcs⟩ := hr (by decide)
    refine ⟨g, 0, hp, fun j hj => ?_⟩
    rw [List.length_map, h1] at hj
    obtain ⟨a1, a2, r, a3, a4⟩ := h5 j hj
    have e : (SL.map rsOf)[j]?.getD ([], []) = rsOf (SL[j]?.getD []) := by
      rw [List.getElem?_map, List.getElem?_eq_getElem (by omega)]
      rfl
    rw [e]
    exact ⟨_, by rw [cell_of_row _ _ _ _ _ _ hg, Nat.zero_add, hcs j (by omega), a3], a4.here⟩
  · obtain ⟨a1, a2, r, a3, a4⟩ := h5 j hj
    exact ⟨a1, fun s hs => (a2 s hs).here⟩

/-- How many patterns there are. -/
def pats (Z : List ZS) : Nat := (Z.map fun z => z.2.1.length).sum
theorem pairs_pats {sts : List PS} {Z : List ZS} (h : Same sts Z) : (pairs sts).length = pats Z := by
  have e : sts.map (fun s => s.2.2.2.1.length) = Z.map (fun z => z.2.1.length) := by
    have := congrArg (List.map fun t : Int × List (List UInt8) × List (List UInt8) => t.2.1.length) h
    simpa [List.map_map, Function.comp_def] using this
  unfold pats pairs
  rw [← e, List.length_flatMap]
  congr 1
  apply List.map_congr_left
  intro s _
  simp
theorem pats_part (Z : List ZS) (q : Nat) : pats (ofPart Z q) ≤ pats Z := by
  unfold pats ofPart
  induction Z with
  | nil => exact Nat.le_refl _
  | cons z Z ih =>
    rw [List.filter_cons]
    split
    · simp only [List.map_cons, List.sum_cons]; omega
    · simp only [List.map_cons, List.sum_cons]; omega
theorem Same.small {sts : List PS} {Z : List ZS} (h : Same sts Z) (hZ : ∀ z ∈ Z, Small z.2.1 ∧ Small z.2.2.1) : ∀ s ∈ sts, Small s.2.2.2.1 ∧ Small s.2.2.2.2 := fun s hs => by
  have hm : s.2.2 ∈ sts.map (fun s => s.2.2) := List.mem_map_of_mem hs
  rw [h] at hm
  obtain ⟨z, hz, e⟩ := List.mem_map.1 hm
  rw [← e]
  exact hZ z hz

theorem Tryd.info53 : (Tryd.prog.info? 53).map (fun i => (i.zero, i.size, i.bytes)) = some (some (.pointer none), 1, 8) := by kernel_rfl

set_option maxRecDepth 100000 in
set_option maxHeartbeats 4000000 in
/-- zzRulesOf. -/
theorem rof20 (v0 : Value) (Z : List ZS) (w : World) (hZ : SmallZ Z) (hT : pats Z ≤ 100000000) (hp : ∀ z ∈ Z, z.2.2.2 < 256) (hs : Zs w v0 Z) : Calls Tryd.prog 20 #[v0, .int .i64 3] w (RofPost Z w) := by
  obtain ⟨i53, hi, hz0, hz1, hz2⟩ := info_parts Tryd.info53
  obtain ⟨w0, hmk, hrow0, hg0⟩ := run_make_own (P := Tryd.prog) w w.heap.size 34 53 i53 _ 1 Tryd.underlying34 hi hz0 hz1 .i64 .i64 3 (by rw [hz2]; omega) (by unfold maxLen; omega) (Nat.le_refl _)
  replace hmk : (Instr.makeSlice 34 (.int .i64 0) (.int .i64 3)).run Tryd.prog w = .ok (.slice (some ⟨w.heap.size, 0, none⟩) 0 3) w0 := hmk
  have hB0 : Below w.heap.size w w0 := (Below.refl _ w).grown hg0 (Nat.le_refl _) fun k hk => by cases hk
  have H0 : Hid (RK Z w.heap.size w (.slice (some ⟨w.heap.size, 0, none⟩) 0 3) 0 w0) := hide ⟨[], [], rfl, rfl, hrow0, hB0, fun j hj => absurd hj (Nat.not_lt_zero j)⟩
  have H36 : Hid (∀ (q : Nat) (w' : World), q < 3 → Below w.heap.size w w' → Calls Tryd.prog 36 #[v0, .int .i64 (q : Int), .int .i64 3] w' (StOfPost Z q w')) := hide fun q w' hq hB => stof36 v0 q Z w' hq hZ (hs.below hB) hp
  have H35 : Hid (∀ (q : Nat) (p : Option Addr) (n c b o : Nat) (w' : World), Sts w' (.slice p n c) (ofPart Z q) → (0 < (ofPart Z q).length → p = some ⟨b, o, none⟩) → Calls Tryd.prog 35 #[.slice p n c] w' (NewPost (plc b o (ofPart Z q)) w')) := hide fun q p n c b o w' hst hpp =>
    new35 (.slice p n c) (plc b o (ofPart Z q)) w' (by rw [plc_len]; exact Nat.le_trans (List.length_filter_le _ _) hZ.1) (by rw [pairs_pats (plc_same b o _)]; exact Nat.le_trans (pats_part Z q) hT) (fun s hs => ((plc_same b o (ofPart Z q)).small (fun z hz => hZ.2 z (List.mem_filter.1 hz).1) s hs).1) (hst.placed hpp)
  clear hrow0 hg0 hB0 hZ hT hp hs
  go_enter Tryd.func20, Tryd.ntmps20
  go_wp2
  go_loopw [5, 6] (fun v i wr => ∃ k : Nat, k ≤ 3 ∧ i = .int .i64 k ∧ RK Z w.heap.size w v k wr) (fun _ i _ => 3 - (intOf i).toNat)
  case atStart => exact ⟨0, by omega, rfl, unhide H0⟩
  case round =>
    clear H0 hmk
    obtain ⟨k, hk, rfl, hrk⟩ := hrel
    have hBw : Below w.heap.size w wr := by obtain ⟨_, _, _, _, _, h, _⟩ := hrk; exact h
    have hle := hBw.size
    by_cases hlt : k < 3
    · have HC := hide (unhide H36 k wr hlt hBw)
      have Hrk := hide hrk
      clear hrk hBw H36
      go_wp2_with (first
        | (go_at_call 36; refine (unhide HC).mono ?_; rintro e w1 ⟨p1, c1, rfl, h1, hB1⟩; obtain ⟨b1, o1, hp1, _⟩ := h1.here.parts; have HN := hide (unhide H35 k p1 _ c1 b1 o1 w1 h1.here hp1); have HB1 := hide hB1; have HF1 := hide h1; have Hp1 := hide hp1; clear h1 hB1 hp1)
        | (go_at_call 35; refine (unhide HN).mono ?_; rintro e w2 ⟨r2, rfl, h2, hB2⟩; have HB2 : Hid (Below wr.heap.size wr w2) := hide ((unhide HB1).trans (hB2.mono (unhide HB1).size)); have hle2 : w.heap.size ≤ w2.heap.size := (by have := (unhide HB2).size; omega);
           obtain ⟨vs, hown, hcl⟩ := ((unhide Hrk).below hle (unhide HB2)).push hle2 (plc b1 o1 (ofPart Z k)) (plc_same b1 o1 _) (fun s hs w' hs' hk' => (((unhide HF1).below hB2) w' hs' hk').placed (unhide Hp1) |>.okk s hs) r2 h2;
           have Hown := hide hown; have Hcl := hide hcl; clear hown hcl h2 hB2)
        | (at_builtin; refine wpList_append_lies _ rfl (.tmp 14) (.tmp 20) 34 rfl w.heap.size 53 i53 _ 1 8 Tryd.underlying34 hi hz0 hz1 hz2 rfl (by decide) u5 k vs rfl (World.ownsRow.alloc (unhide Hown) _) ⟨w2.heap.size, 0, none⟩ 1 1 [.pointer (some ⟨r2, 0, none⟩)] rfl rfl (by exact cells_new _ [.pointer (some ⟨r2, 0, none⟩)] _ _ rfl) (fun u hu => by simp at hu; subst hu; rfl) (by decide) (by unfold maxLen; omega) (by omega) (by simp; omega) _ rfl ?_; intro g5 cap5 w5 ho5 hg5 hgg5 hlt5; have HK5 := hide (unhide Hcl _ g5 cap5 w5 ho5 hg5); clear ho5 hg5 hgg5 hlt5))
      exact ⟨⟨k + 1, by omega, by go_num, unhide HK5⟩, by simp [intOf]; omega⟩
    · obtain rfl : k = 3 := by omega
      have HD := hide hrk.done
      clear hrk hBw H36 H35
      go_wp2
      go_ret
      exact unhide HD

end Go.Proofs.Qxb6000393aDoor
