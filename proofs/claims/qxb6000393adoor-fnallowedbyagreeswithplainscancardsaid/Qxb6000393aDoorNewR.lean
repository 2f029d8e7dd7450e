/-
  NewRules, walked.
-/
import Derived.Test.Qxb6000393aDoorNewP
namespace Go.Proofs.Qxb6000393aDoor
open Go.RowKit

/-- The statements lie in a slice, three cells each, each with its place. -/
def StsP (w : World) (v : Value) (sts : List PS) : Prop := ∃ p c, v = .slice p sts.length c ∧ (0 < sts.length → ∃ b o, p = some ⟨b, o, none⟩ ∧ ∀ j, j < sts.length → (sts[j]?.getD ps0).1 = b ∧ (sts[j]?.getD ps0).2.1 = o + j * 3) ∧ ∀ s ∈ sts, PS.ok w s

def pairs (sts : List PS) : List (PS × List UInt8) := sts.flatMap fun s => s.2.2.2.1.map fun p => (s, p)
def quots (sts : List PS) : List QS := (sts.filter fun s => s.2.2.2.1.any star).map fun s => (s, s.2.2.2.1.filter star)
theorem pairs_take (sts : List PS) (k : Nat) (h : k < sts.length) (s : PS) (hs : sts[k]?.getD ps0 = s) : pairs (sts.take (k + 1)) = pairs (sts.take k) ++ s.2.2.2.1.map fun p => (s, p) := by
  rw [List.getElem?_eq_getElem h] at hs
  have hs' : sts[k] = s := hs
  rw [List.take_succ_eq_append_getElem h, hs']
  unfold pairs
  rw [List.flatMap_append]; simp
theorem pairs_len (sts : List PS) (k : Nat) : (pairs (sts.take k)).length ≤ (pairs sts).length := by
  have h : pairs sts = pairs (sts.take k) ++ pairs (sts.drop k) := by
    unfold pairs; rw [← List.flatMap_append, List.take_append_drop]
  rw [h, List.length_append]; omega
theorem quots_take (sts : List PS) (k : Nat) (h : k < sts.length) (s : PS) (hs : sts[k]?.getD ps0 = s) : quots (sts.take (k + 1)) = if s.2.2.2.1.filter star = [] then quots (sts.take k) else quots (sts.take k) ++ [(s, s.2.2.2.1.filter star)] := by
  rw [List.getElem?_eq_getElem h] at hs
  have hs' : sts[k] = s := hs
  rw [List.take_succ_eq_append_getElem h, hs']
  unfold quots
  rw [List.filter_append]
  by_cases he : s.2.2.2.1.filter star = []
  · rw [if_pos he]
    have : s.2.2.2.1.any star = false := by
      rw [List.any_eq_false]
      exact fun x hx => by rw [List.filter_eq_nil_iff] at he; exact he x hx
    simp [this]
  · rw [if_neg he]
    have : s.2.2.2.1.any star = true := by
      rw [List.any_eq_true]
      obtain ⟨x, hx⟩ := List.exists_mem_of_ne_nil _ he
      exact ⟨x, (List.mem_filter.1 hx).1, (List.mem_filter.1 hx).2⟩
    simp [this]
theorem quots_len (sts : List PS) (k : Nat) : (quots (sts.take k)).length ≤ sts.length := by
  unfold quots; rw [List.length_map]; exact Nat.le_trans (List.length_filter_le _ _) (by rw [List.length_take]; omega)

/-- NewRules's world inside one statement: t patterns are done. -/
def NI (B : Nat) (w : World) (c0 : Nat) (vst : Value) (D : List (PS × List UInt8)) (Q : List QS) (s : PS) (A : List (List UInt8)) (t : Nat) (v6 : Value) (wr : World) : Prop :=
  NR B w c0 vst (D ++ (A.take t).map fun p => (s, p)) Q wr ∧ wr.ownsRow c0 9 1 v6 ((A.take t).filter star).length (((A.take t).filter star).map S) ∧ ((A.take t).filter star = [] → v6 = .slice none 0 0)

theorem take_one (A : List (List UInt8)) (t : Nat) (ht : t < A.length) (x : List UInt8) (hx : A[t]?.getD [] = x) : A.take (t + 1) = A.take t ++ [x] := by
  rw [List.getElem?_eq_getElem ht] at hx
  have hx' : A[t] = x := hx
  rw [List.take_succ_eq_append_getElem ht, hx']

theorem NI.below {B : Nat} {w : World} {c0 : Nat} {vst : Value} {D : List (PS × List UInt8)} {Q : List QS} {s : PS} {A : List (List UInt8)} {t : Nat} {v6 : Value} {wr wr' : World} (h : NI B w c0 vst D Q s A t v6 wr) (hB : Below wr.heap.size wr wr') : NI B w c0 vst D Q s A t v6 wr' :=
  ⟨h.1.below hB, own_below h.2.1 hB, h.2.2⟩

theorem NI.starP {B : Nat} {w : World} {c0 : Nat} {vst : Value} {D : List (PS × List UInt8)} {Q : List QS} {s : PS} {A : List (List UInt8)} {t : Nat} {v6 : Value} {wr : World} (h : NI B w c0 vst D Q s A t v6 wr) (ht : t < A.length) (x : List UInt8) (hx : A[t]?.getD [] = x) (hs : star x = true) :
    ∃ n xs, n ≤ t ∧ wr.ownsRow c0 9 1 v6 n xs ∧ c0 ≤ wr.heap.size ∧ ∀ o g cap w5, w5.ownsRow c0 9 1 (.slice (some ⟨g, 0, none⟩) (n + 1) cap) (n + 1) (xs ++ [S x]) → (wr.alloc o).grownBy w5 v6.ownBlock → NI B w c0 vst D Q s A (t + 1) (.slice (some ⟨g, 0, none⟩) (n + 1) cap) w5 := by
  obtain ⟨h1, h2, h3⟩ := h
  refine ⟨_, _, Nat.le_trans (List.length_filter_le _ _) (by rw [List.length_take]; omega), h2, h1.2.2.1, fun o g cap w5 ho hg => ?_⟩
  have e := take_one A t ht x hx
  have ef : (A.take (t + 1)).filter star = (A.take t).filter star ++ [x] := by rw [e, List.filter_append]; simp [hs]
  refine ⟨?_, ?_, ?_⟩
  · rw [e, List.map_append, ← List.append_assoc]
    exact h1.starP h2 hg hs
  · rw [ef, List.length_append, List.map_append]
    exact ho
  · rw [ef]; intro h; simp at h

theorem NI.lit {B : Nat} {w : World} {c0 : Nat} {vst : Value} {D : List (PS × List UInt8)} {Q : List QS} {s : PS} {A : List (List UInt8)} {t : Nat} {v6 : Value} {wr : World} (h : NI B w c0 vst D Q s A t v6 wr) (ht : t < A.length) (x : List UInt8) (hx : A[t]?.getD [] = x) (hs : star x = false) :
    ∃ n xs vx, n ≤ D.length + t ∧ (Instr.lookup 54 (.map (some B)) (S x) false).run Tryd.prog wr = .ok vx wr ∧ (∀ o, (Instr.lookup 54 (.map (some B)) (S x) false).run Tryd.prog (wr.alloc o) = .ok vx (wr.alloc o)) ∧ wr.ownsRow (B + 2) 58 1 vx n xs ∧ B + 2 ≤ wr.heap.size ∧ wr.cell? ⟨B + 1, 0, none⟩ = some (.map (some B)) ∧
      ∀ o g cap w5, w5.ownsRow (B + 2) 58 1 (.slice (some ⟨g, 0, none⟩) (n + 1) cap) (n + 1) (xs ++ [ptr s]) → (wr.alloc o).grownBy w5 vx.ownBlock → (vx.ownBlock = some g ∨ g = wr.heap.size + 1) →
        w5.cell? ⟨B + 1, 0, none⟩ = some (.map (some B)) ∧
        ∃ w6, (Instr.mapUpdate 54 (.map (some B)) (S x) (.slice (some ⟨g, 0, none⟩) (n + 1) cap)).run Tryd.prog w5 = .ok () w6 ∧ w6.cell? ⟨B + 1, 0, none⟩ = some (.map (some B)) ∧ NI B w c0 vst D Q s A (t + 1) v6 w6 := by
  obtain ⟨h1, h2, h3⟩ := h
  obtain ⟨vx, a1, a2, a3, a4⟩ := h1.lit h2 x hs s
  have e := take_one A t ht x hx
  have ef : (A.take (t + 1)).filter star = (A.take t).filter star := by rw [e, List.filter_append]; simp [hs]
  refine ⟨_, _, vx, Nat.le_trans (lits_len _ _) (by rw [List.length_append, List.length_map, List.length_take]; omega), a1, a2, a3, by have := h1.2.1; have := h1.2.2.1; omega, by rw [cell_of_row _ _ _ _ _ _ h1.2.2.2.1]; rfl, fun o g cap w5 ho hg hgg => ?_⟩
  obtain ⟨b1, w6, b2, b3, b4, b5⟩ := a4 o g cap w5 ho hg hgg
  refine ⟨b1, w6, b2, b3, ?_, ?_, ?_⟩
  · rw [e, List.map_append, ← List.append_assoc]
    exact b4
  · rw [ef]; exact b5
  · rw [ef]; exact h3

/-- Rules in memory. -/
def PtrsL (w : World) (v : Value) (L : List PS) : Prop := ∃ p c, v = .slice p L.length c ∧ SegV w p L.length (fun j => ptr (L[j]?.getD ps0))
def RulesAt (w : World) (v : Value) (D : List (PS × List UInt8)) (Q : List QS) : Prop :=
  ∃ (r g : Nat) (vst : Value) (M : List (List UInt8 × Value)), v = .pointer (some ⟨r, 0, none⟩) ∧ w.cell? ⟨r, 0, none⟩ = some (.map (some g)) ∧ w.cell? ⟨r, 1, none⟩ = some vst ∧ MapAt w g M ∧ (∀ x, PtrsL w (val M x) (lits D x)) ∧
    ∃ p c, vst = .slice p Q.length c ∧ (0 < Q.length → ∃ b o, p = some ⟨b, o, none⟩ ∧ ∀ j, j < Q.length → w.cell? ⟨b, o + j * 2, none⟩ = some (ptr (Q[j]?.getD (ps0, [])).1) ∧ ∃ vp, w.cell? ⟨b, o + j * 2 + 1, none⟩ = some vp ∧ Strs w vp (Q[j]?.getD (ps0, [])).2)
theorem RulesAt.below {w w' : World} {v : Value} {D : List (PS × List UInt8)} {Q : List QS} (h : RulesAt w v D Q) (hB : Below w.heap.size w w') : RulesAt w' v D Q := by
  obtain ⟨r, g, vst, M, h1, h2, h3, ⟨es, clock, h4, h5⟩, h6, p, c, h7, h8⟩ := h
  refine ⟨r, g, vst, M, h1, (hB.cell (p := ⟨r, 0, none⟩) (World.block_lt_of_cell? _ _ h2)).trans h2, (hB.cell (p := ⟨r, 1, none⟩) (World.block_lt_of_cell? _ _ h3)).trans h3, ⟨es, clock, by rw [hB.block _ (lt_of_heap h4)]; exact h4, h5⟩, fun x => ?_, p, c, h7, fun h0 => ?_⟩
  · obtain ⟨p, c, a1, a2⟩ := h6 x
    exact ⟨p, c, a1, a2.below hB⟩
  · obtain ⟨b, o, a1, a2⟩ := h8 h0
    refine ⟨b, o, a1, fun j hj => ?_⟩
    obtain ⟨a3, vp, a4, a5⟩ := a2 j hj
    exact ⟨(hB.cell (p := ⟨b, o + j * 2, none⟩) (World.block_lt_of_cell? _ _ a3)).trans a3, vp, (hB.cell (p := ⟨b, o + j * 2 + 1, none⟩) (World.block_lt_of_cell? _ _ a4)).trans a4, a5.below hB⟩

theorem NR.lift {B : Nat} {w : World} {c0 : Nat} {vst : Value} {D : List (PS × List UInt8)} {Q : List QS} {wr : World} (h : NR B w c0 vst D Q wr) : NR B w wr.heap.size vst D Q wr := by
  obtain ⟨h1, h2, h3, h4, h5, K, k1, k2, k3⟩ := h
  exact ⟨h1, by omega, Nat.le_refl _, h4, h5, K, k1, k2, fun d hd => (k3 d hd).le fun b hb hI => ⟨hI.1, hb⟩⟩

theorem NR.done {B : Nat} {w : World} {c0 : Nat} {vst : Value} {D : List (PS × List UInt8)} {Q : List QS} {wr : World} (h : NR B w c0 vst D Q wr) : RulesAt wr (.pointer (some ⟨B + 1, 0, none⟩)) D Q := by
  obtain ⟨h1, h2, h3, h4, ⟨M, m1, m2, m3⟩, K, k1, k2, k3⟩ := h
  obtain ⟨p, c, hv, h5⟩ := row_form' k2
  refine ⟨B + 1, B, vst, M, rfl, by rw [cell_of_row _ _ _ _ _ _ h4]; rfl, by rw [cell_of_row _ _ _ _ _ _ h4]; rfl, m1, fun x => ?_, p, c, hv, fun h0 => ?_⟩
  · obtain ⟨p, c, hv, h5⟩ := row_form' (m2 x)
    refine ⟨p, c, hv, fun h0 => ?_⟩
    obtain ⟨g, cs, _, hp, hg, hcs⟩ := h5 h0
    refine ⟨g, 0, hp, fun j hj => ?_⟩
    have he : (lits D x)[j]?.getD ps0 = (lits D x)[j] := by rw [List.getElem?_eq_getElem hj]; rfl
    dsimp only
    rw [cell_of_row _ _ _ _ _ _ hg, Nat.zero_add, hcs j (by omega), List.getElem?_map, he, List.getElem?_eq_getElem hj]
    rfl
  · obtain ⟨g, cs, _, hp, hg, hcs⟩ := h5 h0
    refine ⟨g, 0, hp, fun j hj => ?_⟩
    have hjK : j < K.length := by rw [← k1, List.length_map] at hj; exact hj
    have hQ : Q[j]?.getD (ps0, []) = (K[j]).1 := by rw [← k1, List.getElem?_map, List.getElem?_eq_getElem hjK]; rfl
    have hf : ∀ i, i < 2 → wr.cell? ⟨g, 0 + j * 2 + i, none⟩ = [ptr (K[j]).1.1, (K[j]).2][i]? := fun i hi => by
      rw [cell_of_row _ _ _ _ _ _ hg, Nat.zero_add, hcs _ (by omega), flat_at (fun d : QS × Value => [ptr d.1.1, d.2]) 2 (fun _ => rfl) K j i hi, List.getElem?_eq_getElem hjK]
      rfl
    rw [hQ]
    exact ⟨hf 0 (by decide), _, hf 1 (by decide), (k3 _ (List.getElem_mem hjK)).strs⟩

theorem NR.fr {B : Nat} {w : World} {c0 : Nat} {vst : Value} {D : List (PS × List UInt8)} {Q : List QS} {wr : World} (h : NR B w c0 vst D Q wr) : Fr wr fun w' => RulesAt w' (.pointer (some ⟨B + 1, 0, none⟩)) D Q := fun w' hs hk => by
  obtain ⟨h1, h2, h3, h4, ⟨M, ⟨es, clock, m1, m2⟩, m3, m4⟩, h6⟩ := h
  have h' : NR B w' c0 vst D Q w' := ⟨Below.refl _ _, h2, by omega, by rw [hk _ _ h4 fun _ e => (by cases e)]; exact h4, ⟨M, ⟨es, clock, by rw [hk _ _ m1 fun _ e => (by cases e)]; exact m1, m2⟩, fun x => own_keep (m3 x) fun g cs _ _ hg => hk g _ hg fun _ e => (by cases e), m4⟩, h6.keep (fun b cs _ hg => hk b _ hg fun _ e => (by cases e)) (fun b cs _ _ hg => hk b _ hg fun _ e => (by cases e))⟩
  exact h'.done

theorem NR.start (w : World) : NR w.heap.size w ((w.alloc (.map #[] 0)).alloc (.cells #[.map (some w.heap.size), .slice none 0 0] 57)).heap.size (.slice none 0 0) (pairs ([] : List PS)) (quots ([] : List PS)) ((w.alloc (.map #[] 0)).alloc (.cells #[.map (some w.heap.size), .slice none 0 0] 57)) := by
  refine ⟨((Below.refl _ w).alloc (Nat.le_refl _) _).alloc (by simp) _, by simp, Nat.le_refl _, ?_, ⟨[], ⟨#[], 0, ?_, rfl⟩, fun x => World.ownsRow_nil _ _ _ _, fun x y g _ h => (by cases h)⟩, [], rfl, World.ownsRow_nil _ _ _ _, fun d hd => absurd hd (by simp)⟩
  · have := heap_alloc_new (w.alloc (.map #[] 0)) (.cells #[.map (some w.heap.size), .slice none 0 0] 57)
    simpa using this
  · rw [Below.heap_alloc _ _ _ (by simp)]
    exact heap_alloc_new w _

def NewPost (sts : List PS) (w : World) (e : Ending) (w' : World) : Prop := ∃ r, e = .returned (.pointer (some ⟨r, 0, none⟩)) ∧ Fr w' (fun w'' => RulesAt w'' (.pointer (some ⟨r, 0, none⟩)) (pairs sts) (quots sts)) ∧ Below w.heap.size w w'

theorem Tryd.info58 : (Tryd.prog.info? 58).map (fun i => (i.zero, i.size, i.bytes)) = some (some (.pointer none), 1, 8) := by kernel_rfl
theorem Tryd.info61 : (Tryd.prog.info? 61).map (fun i => (i.zero, i.size, i.bytes)) = some (some (.agg #[.pointer none, .slice none 0 0]), 2, 32) := by kernel_rfl

set_option maxRecDepth 100000 in
set_option maxHeartbeats 8000000 in
/-- NewRules. -/
theorem new35 (v0 : Value) (sts : List PS) (w : World) (hn : sts.length ≤ 2000000) (hD : (pairs sts).length ≤ 100000000) (hA : ∀ s ∈ sts, Small s.2.2.2.1) (hs : StsP w v0 sts) : Calls Tryd.prog 35 #[v0] w (NewPost sts w) := by
  obtain ⟨p0, c0, rfl, hs, hok⟩ := hs
  obtain ⟨i9, hi9, hx0, hx1, hx2⟩ := info_parts Tryd.info9
  obtain ⟨i58, hi58, hy0, hy1, hy2⟩ := info_parts Tryd.info58
  obtain ⟨i61, hi61, hz0, hz1, hz2⟩ := info_parts Tryd.info61
  have Hs := hide hs
  have HA := hide hA
  have Hok := hide hok
  clear hs hA hok
  generalize hN : sts.length = n at *
  have HlenN := hide hN
  clear hN
  have hmm : ∀ (t : TypeId) (w : World), (Instr.makeMap t none).run Tryd.prog w = .ok (.map (some w.heap.size)) (w.alloc (.map #[] 0)) := fun _ _ => rfl
  have q27 := fun a l c w => run_neq_slice_nil (P := Tryd.prog) w 27 9 a l c Tryd.underlying27
  have cS := cells_S
  simp only [Value.cells] at cS
  go_enter Tryd.func35, Tryd.ntmps35
  go_wp2
  go_loopw [14] (fun i wr => ∃ (k : Nat) (vst : Value), k ≤ n ∧ i = .int .i64 k ∧ NR w.heap.size w wr.heap.size vst (pairs (sts.take k)) (quots (sts.take k)) wr) (fun i _ => n - (intOf i).toNat)
  case atStart =>
    refine ⟨0, .slice none 0 0, Nat.zero_le _, rfl, NR.start w⟩
  case round =>
    obtain ⟨k, vst, hk, rfl, hrow⟩ := hrel
    by_cases hlt : k < n
    · obtain ⟨b, o, rfl, hc⟩ := unhide Hs (by omega)
      have hlk : k < sts.length := by rw [unhide HlenN]; exact hlt
      have hbo := hc k hlt
      have hsm : Small (sts[k]?.getD ps0).2.2.2.1 := by rw [List.getElem?_eq_getElem hlk]; exact unhide HA _ (List.getElem_mem hlk)
      have hsk : PS.ok w (sts[k]?.getD ps0) := by rw [List.getElem?_eq_getElem hlk]; exact unhide Hok _ (List.getElem_mem hlk)
      obtain ⟨⟨b', o', ez, A, R⟩, hz⟩ : ∃ z, sts[k]?.getD ps0 = z := ⟨_, rfl⟩
      have hpt := pairs_take sts k hlk _ hz
      have hqt := quots_take sts k hlk _ hz
      have hpl := pairs_len sts (k + 1)
      rw [hpt] at hpl
      rw [hz] at hbo hsm hsk
      obtain ⟨hb', ho'⟩ := hbo
      dsimp only at hb' ho' hsm hpt hqt hpl
      rw [List.length_append, List.length_map] at hpl
      have hql := quots_len sts k
      rw [unhide HlenN] at hql
      subst hb' ho'
      obtain ⟨va, vr, k0, k1, k2, ⟨pa, ca, rfl, k4⟩, k5⟩ := hsk
      obtain ⟨wo, hwo⟩ : ∃ wo, wo = wr := ⟨_, rfl⟩
      subst hwo
      have hBw := hrow.1
      have k1r := (hBw.cell (p := ⟨b', o + k * 3 + 1, none⟩) (World.block_lt_of_cell? _ _ k1)).trans k1
      have Hseg : Hid (SegV w pa A.length (fun j => S (A[j]?.getD []))) := hide k4
      have HI0 : Hid (NI w.heap.size w wo.heap.size vst (pairs (sts.take k)) (quots (sts.take k)) (b', o + k * 3, ez, A, R) A 0 (.slice none 0 0) wo) := hide ⟨by simpa using hrow, World.ownsRow_nil _ _ _ _, fun _ => rfl⟩
      have Hpt := hide hpt
      have Hqt := hide hqt
      have hDk : (pairs (sts.take k)).length + A.length ≤ 100000000 := by omega
      have Hsm := hide hsm
      have hAl := hsm.1
      clear hc k4 k5 k0 k1 k2 hsm hrow hz Hs HA Hok hBw hlk hpt hqt hpl
      generalize hAN : A.length = na at *
      have HAN := hide hAN
      clear hAN
      generalize pairs (sts.take k) = D0 at *
      generalize quots (sts.take k) = Q0 at *
      go_wp2
      go_loopw [6, 25] (fun v6 i wi => ∃ t : Nat, t ≤ na ∧ i = .int .i64 t ∧ NI w.heap.size w wo.heap.size vst D0 Q0 (b', o + k * 3, ez, A, R) A t v6 wi) (fun _ i _ => na - (intOf i).toNat)
      case atStart => exact ⟨0, Nat.zero_le _, rfl, unhide HI0⟩
      case round =>
        clear HI0
        obtain ⟨t, ht, rfl, hni⟩ := hrel
        obtain ⟨wi, hwi⟩ : ∃ wi, wi = wr := ⟨_, rfl⟩
        subst hwi
        by_cases hta : t < na
        · have htA : t < A.length := by rw [unhide HAN]; exact hta
          obtain ⟨b1, o1, rfl, hcs⟩ := unhide Hseg (by omega)
          have hck := (hni.1.1.cell (p := ⟨b1, o1 + t, none⟩) (World.block_lt_of_cell? _ _ (hcs t hta))).trans (hcs t hta)
          obtain ⟨x, hx⟩ : ∃ x, A[t]?.getD [] = x := ⟨_, rfl⟩
          dsimp only at hck
          rw [hx] at hck
          have hC := has_S x wi
          have hsx : decide (0 ≤ Lib.indexByte x 42) = star x := rfl
          rw [hsx] at hC
          clear hcs hsx
          cases hst : star x with
          | true =>
            rw [hst] at hC
            have HC := hide hC
            obtain ⟨m, xs, hm, hown, hc0, hcl⟩ := hni.starP htA x hx hst
            have Hown := hide hown
            have Hcl := hide hcl
            clear hC hni hown hcl htA hx hst
            go_wp2_with (first
              | (go_at_call 46; refine (unhide HC).mono ?_; rintro e w1 ⟨rfl, hw1⟩; obtain rfl : wi = w1 := hw1.symm)
              | (at_builtin; refine wpList_append_lies _ rfl (.tmp 31) (.tmp 33) 27 rfl wo.heap.size 9 i9 _ 1 16 Tryd.underlying27 hi9 hx0 hx1 hx2 rfl (by decide) u6 m xs rfl (World.ownsRow.alloc (unhide Hown) _) ⟨wi.heap.size, 0, none⟩ 1 1 [S x] rfl rfl (by exact cells_new _ [S x] _ _ rfl) (fun u hu => by simp at hu; subst hu; rfl) (by decide) (by unfold maxLen; omega) (by omega) (by simp; omega) _ rfl ?_; intro g5 cap5 w5 ho5 hg5 hgg5 hlt5; have HN5 := hide (unhide Hcl _ g5 cap5 w5 ho5 hg5); clear ho5 hg5 hgg5 hlt5))
            go_roundw
            case rel => exact ⟨t + 1, by omega, by go_num, unhide HN5⟩
            case measure => simp [intOf]; omega
          | false =>
            rw [hst] at hC
            have HC := hide hC
            obtain ⟨m, xs, vx, hm, hl1, hl2, hown, hc0, hcell, hcl⟩ := (hni.below (below_drew wi)).lit htA x hx hst
            have Hown := hide hown
            have Hcl := hide hcl
            have HSd : Hid (wi.drew.cell? ⟨w.heap.size + 1, 0, none⟩ = some (.map (some w.heap.size))) := hide hcell
            have HSa : Hid ((wi.alloc (.cells #[.pointer (some ⟨b', o + k * 3, none⟩)] 58)).drew.cell? ⟨w.heap.size + 1, 0, none⟩ = some (.map (some w.heap.size))) := hide ((World.cell?_alloc_some wi.drew ⟨w.heap.size + 1, 0, none⟩ _ (by rw [hcell]; rfl)).trans hcell)
            have hcell0 : wi.cell? ⟨w.heap.size + 1, 0, none⟩ = some (.map (some w.heap.size)) := hcell
            clear hC hni hown hcl htA hx hst hcell
            go_wp2_with (first
              | (go_at_call 46; refine (unhide HC).mono ?_; rintro e w1 ⟨rfl, hw1⟩; obtain rfl : wi = w1 := hw1.symm))
            have hl2' : (Instr.lookup 54 (.map (some w.heap.size)) (S x) false).run Tryd.prog (wi.alloc (.cells #[.pointer (some ⟨b', o + k * 3, none⟩)] 58)).drew = .ok vx (wi.alloc (.cells #[.pointer (some ⟨b', o + k * 3, none⟩)] 58)).drew := hl2 (.cells #[.pointer (some ⟨b', o + k * 3, none⟩)] 58)
            clear hl2
            go_region_held3 (fun w' => w'.cell? ⟨w.heap.size + 1, 0, none⟩ = some (.map (some w.heap.size)))
              (first | exact unhide H65 | exact unhide H55 | exact unhide HSa | exact unhide HSd)
              (first | (refine step_append_lies _ rfl (.tmp 45) (.tmp 47) 50 rfl (w.heap.size + 2) 58 i58 _ 1 8 Tryd.underlying50 hi58 hy0 hy1 hy2 rfl (by decide) vx m xs rfl (show (wi.alloc (.cells #[.pointer (some ⟨b', o + k * 3, none⟩)] 58)).drew.ownsRow (w.heap.size + 2) 58 1 vx m xs from World.ownsRow.alloc (unhide Hown) (.cells #[.pointer (some ⟨b', o + k * 3, none⟩)] 58)) ⟨wi.heap.size, 0, none⟩ 1 1 [.pointer (some ⟨b', o + k * 3, none⟩)] rfl rfl (by exact cells_new wi.drew [.pointer (some ⟨b', o + k * 3, none⟩)] 58 _ rfl) (fun u hu => by simp at hu; subst hu; rfl) (by decide) (by unfold maxLen; omega) (by omega) (by simp at hc0 ⊢; omega) _ rfl ?_; intro g5 cap5 w5 ho5 hg5 hgg5 hlt5; obtain ⟨h55, w6, hrun, h65, hN6⟩ := unhide Hcl (.cells #[.pointer (some ⟨b', o + k * 3, none⟩)] 58) g5 cap5 w5 ho5 hg5 (by simpa using hgg5); have H55 := hide h55; have H65 := hide h65; have HN6 := hide hN6; clear ho5 hg5 hgg5 hlt5 h55 h65 hN6))
            all_goals go_wp2
            all_goals go_roundw
            case rel => exact ⟨t + 1, by omega, by go_num, unhide HN6⟩
            case measure => simp [intOf]; omega
            case rel => exact ⟨t + 1, by omega, by go_num, unhide HN6⟩
            case measure => simp [intOf]; omega
        · have e : A.take t = A := List.take_of_length_le (by rw [unhide HAN]; omega)
          obtain ⟨n1, n2, n3⟩ := hni
          rw [e] at n1 n2 n3
          have hqt := unhide Hqt
          rw [← unhide Hpt] at n1
          clear e Hpt Hqt
          by_cases hP : A.filter star = []
          · obtain rfl := n3 hP
            rw [if_pos hP] at hqt
            rw [← hqt] at n1
            have HN := hide n1.lift
            clear n1 n2 n3 hqt hP
            go_wp2
            exact ⟨⟨k + 1, _, by omega, by go_num, unhide HN⟩, by simp [intOf]; omega⟩
          · rw [if_neg hP] at hqt
            have hpos : 0 < (A.filter star).length := List.length_pos_iff.2 hP
            obtain ⟨p6, c6, rfl, hr6⟩ := row_form' n2
            obtain ⟨g6, cs6, _, rfl, _⟩ := hr6 hpos
            generalize hn6 : (A.filter star).length = n6 at *
            obtain ⟨xs, hown, hcell, hcl⟩ := n1.push hn6 n2 (b', o + k * 3, ez, A, R)
            rw [← hqt] at hcl
            have hc0 : w.heap.size + 2 ≤ wi.heap.size := by have := n1.2.1; have := n1.2.2.1; omega
            have Hown := hide hown
            have Hcl := hide hcl
            clear n1 n2 n3 hqt hP hr6 hn6 hown hcl
            generalize hQN : Q0.length = nq at *
            clear hQN
            go_wp2_with (at_builtin; refine wpList_append_lies _ rfl (.tmp 56) (.tmp 60) 55 rfl (w.heap.size + 2) 61 i61 _ 2 32 Tryd.underlying55 hi61 hz0 hz1 hz2 rfl (by decide) vst nq xs rfl (World.ownsRow.alloc (unhide Hown) _) ⟨wi.heap.size, 0, none⟩ 1 1 [.pointer (some ⟨b', o + k * 3, none⟩), .slice (some ⟨g6, 0, none⟩) n6 c6] rfl rfl (by exact cells_new _ [.pointer (some ⟨b', o + k * 3, none⟩), .slice (some ⟨g6, 0, none⟩) n6 c6] _ _ rfl) (fun u hu => by simp at hu; rcases hu with rfl | rfl <;> rfl) (by decide) (by unfold maxLen; omega) (by omega) (by simp; omega) _ rfl ?_; intro g5 cap5 w5 ho5 hg5 hgg5 hlt5; obtain ⟨h51, h52, h53⟩ := unhide Hcl _ g5 cap5 w5 ho5 hg5; have HN5 := hide h53; clear ho5 hg5 hgg5 hlt5 h53)
            exact ⟨⟨k + 1, _, by omega, by go_num, (unhide HN5).lift⟩, by simp [intOf]; omega⟩
    · have hkn : k = n := by omega
      subst hkn
      rw [List.take_of_length_le (by rw [unhide HlenN]; exact Nat.le_refl _)] at hrow
      have HD : Hid (NewPost sts w (.returned (.pointer (some ⟨w.heap.size + 1, 0, none⟩))) wr) := hide ⟨_, rfl, hrow.fr, hrow.1⟩
      clear hrow HA Hs Hok
      go_wp2
      go_ret
      exact unhide HD

end Go.Proofs.Qxb6000393aDoor
