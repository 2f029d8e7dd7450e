/-
  Match, walked to its end.
-/
import Derived.Test.Qxb6000393aDoorRange
namespace Go.Proofs.Qxb6000393aDoor
open Go.RowKit Go.Shelf
attribute [local go_sem] Oper.semAt_some

/-- The range's law with the loop variable in slots 57 and 11. -/
theorem range_match {a : Act} {assign body : Code} {Q : Exit → Act → World → Prop} (w W1 : World) (mid nm : List UInt8) (hM : HasMax w) (hmid : mid.length < 4294967281) (hnm : nm.length < 4294967281) (hMS : MS w mid nm W1)
    (hg : a.eval (.tmp 56) = .func (.func 47) #[] #[.pointer (some ⟨w.heap.size + 1 + 1 + 1, 0, none⟩), .pointer (some ⟨w.heap.size + 1 + 1, 0, none⟩), .pointer (some ⟨w.heap.size + 1 + 1 + 1 + 1, 0, none⟩)])
    (hassign : ∀ (l : Nat) (run : List UInt8) (W : World) (K : Act → World → Prop), K { tmps := (a.tmps.setIfInBounds 57 (S run)).setIfInBounds 11 (S run), defers := [] } W → assign.wpIn (Fence.wide.inRound l) 2 Tryd.prog (Exit.then K (fun _ _ _ => False)) { tmps := a.tmps.setIfInBounds 57 (S run), defers := [] } W)
    (hbody : ∀ (l : Nat) (mid nm run : List UInt8) (W : World), MS w mid nm W → nm.length < 4294967281 → body.wpIn (Fence.wide.inRound l) 2 Tryd.prog (bodyEnd w nm run W) { tmps := (a.tmps.setIfInBounds 57 (S run)).setIfInBounds 11 (S run), defers := [] } W)
    (hdone : ∀ (D : Nat) (W : World), runsF (mid.length + 1) mid nm = true → After w D W → Q .normal { a with defers := { target := .collected D, args := #[] } :: a.defers } W)
    (hstop : ∀ (D : Nat) (W : World), runsF (mid.length + 1) mid nm = false → After w D W → Code.ret.wpIn Fence.wide 4 Tryd.prog Q { a with defers := { target := .collected D, args := #[] } :: a.defers } W) :
    (Code.rangeFunc (.tmp 56) #[57] assign body).wpIn Fence.wide 4 Tryd.prog Q a W1 :=
  range_split w W1 mid nm hM hmid hnm hMS hg _ hassign hbody hdone hstop

theorem match_retD {b B : Bool} {w W : World} {D : Nat} {t0 t1 t2 t3 : Value} {ts : List Value} (hc : W.heap[w.heap.size + 1]? = some (.cells #[.bool b] 4 (0, 0))) (hB : Below w.heap.size w W) (hD : W.heap[D]? = some (.deferred (some []))) (hlt : w.heap.size + 1 + 1 + 1 + 1 < D) (hb : B = b) :
    bodyPostM Fence.wide 4 Tryd.prog Tryd.f10 (MatchPost B w) Exit.ret { tmps := (t0 :: t1 :: t2 :: t3 :: .pointer (some ⟨w.heap.size + 1, 0, none⟩) :: ts).toArray, defers := [{ target := .collected D, args := #[] }] } W := by
  subst hb
  have hDl := (Array.getElem?_eq_some_iff.1 hD).1
  have hc5 : (W.putObj D (.deferred none)).cell? ⟨w.heap.size + 1, 0, none⟩ = some (.bool B) := by
    rw [cell_of_row _ _ _ _ _ _ ((World.putObj_heap_other (by omega)).trans hc)]; rfl
  refine ⟨by simp, .inl ⟨D, W.putObj D (.deferred none), rfl, run_takeDeferred hD, ?_⟩⟩
  exact ⟨.bool B, by simp [results, Tryd.results10, go_sem, hc5], rfl, hB.grown (grownBy_putObj' _ _ _) (by omega) (fun k e => by cases e; omega)⟩
theorem After.true {w W : World} {D : Nat} (h : After w D W) : (W.setCell ⟨w.heap.size + 1, 0, none⟩ (.bool true)).heap[w.heap.size + 1]? = some (.cells #[.bool true] 4 (0, 0)) ∧ Below w.heap.size w (W.setCell ⟨w.heap.size + 1, 0, none⟩ (.bool true)) ∧ (W.setCell ⟨w.heap.size + 1, 0, none⟩ (.bool true)).heap[D]? = some (.deferred (some [])) ∧ w.heap.size + 1 + 1 + 1 + 1 < D := by
  obtain ⟨h1, h2, h3, h4⟩ := h
  refine ⟨?_, h2.setCell (by simp) _, ?_, h4⟩
  · rw [heap_setCell_same _ _ _ _ _ _ h1]; rfl
  · rw [heap_setCell_other _ _ _ _ (by simp; omega)]; exact h3

set_option maxRecDepth 100000 in
set_option maxHeartbeats 2000000 in
/-- No second star. -/
theorem match_one (p n head rest nm : List UInt8) (w : World) (hp : p.length < 4294967281) (hn : n.length < 4294967281) (hM : HasMax w) (hc : Lib.cut p [42] = (head, rest, true)) (hr : rest.length < 4294967281) (hh : Lib.hasPrefix n head = true)
    (hl : Lib.lastIndexByte ⟨rest.toArray⟩ 42 = -1) (hnm : n.drop head.length = nm) (n2 : List UInt8) (hn2 : nm.take (nm.length - rest.length) = n2) (b : Bool) (hs : Lib.hasSuffix nm rest = b) : Calls Tryd.prog 10 #[S p, S n] w (MatchPost (b && runsF 1 [] n2) w) := by
  have gS := guard_S
  have stS := store_S
  have cS := cells_S
  simp only [Value.cells] at cS
  have HC := hide (cut_S p ((w.alloc (.cells #[S n] 9)).alloc (.cells #[.bool false] 4)) hp (hM.below (((Below.refl _ w).alloc (Nat.le_refl _) _).alloc (by simp) _)))
  rw [hc] at HC
  have HP := hide (pre_S n head)
  rw [hh] at HP
  have HL := hide (fun w => last_S rest w (by omega))
  rw [hl] at HL
  have hln := len_S head
  have hsl := from_S n head.length (pre_len hh)
  rw [hnm] at hsl
  have hnl : nm.length ≤ n.length := by rw [← hnm]; simp
  have HS := hide (fun w => suf_S nm rest w (by omega))
  rw [hs] at HS
  have Hs := hide hs
  have HM := hide hM
  clear hM hc hh hl hs hp hnm
  refine (callsIn_wide (n := 4)).1 ?_
  refine callsIn_of_wp_marks Tryd.func10 rfl trivial ?_ rfl
  simp only [Tryd.ntmps10, List.size_toArray, List.length_cons, List.length_nil, Nat.reduceAdd, Nat.reduceSub, Array.replicate_succ, Array.replicate_zero, List.push_toArray, List.append_toArray, List.nil_append, List.cons_append]
  gi_wp2_with (refine ⟨trivial, ?_⟩; gi_at_call 26; refine (callsIn_wide.2 (unhide HC)).mono ?_; rintro e w1 ⟨rfl, q, hw⟩; rw [hw]; clear HC hw w1)
  gi_wp2_with (refine ⟨trivial, ?_⟩; gi_at_call 27; refine (callsIn_wide.2 (unhide HP _)).mono ?_; rintro e w1 ⟨rfl, hw⟩; rw [hw]; clear HP hw w1)
  gi_wp2_with (refine ⟨trivial, ?_⟩; gi_at_call 28; refine (callsIn_wide.2 (unhide HL _)).mono ?_; rintro e w1 ⟨rfl, hw⟩; rw [hw]; clear HL hw w1)
  cases b with
  | false =>
    gi_wp2_with (refine ⟨trivial, ?_⟩; gi_at_call 29; refine (callsIn_wide.2 (unhide HS _)).mono ?_; rintro e w1 ⟨rfl, hw⟩; rw [hw]; clear HS hw w1)
    refine match_retM (b := false) ?_ ?_
    · exact World.cell?_setCell_same (u := .bool false) _ _ _ ((World.cell?_setCell_other _ _ _ _ (by simp)).trans (two_cell w n q))
    · exact (((((Below.refl _ w).alloc (Nat.le_refl _) _).alloc (by simp) _).trans ((below_drewN_any _ q).mono (by simp; omega))).setCell (by simp) _).setCell (by simp) _
  | true =>
    have hl2 := len_S nm
    have hl3 := len_S rest
    have hle := suf_len (unhide Hs)
    have hto : ∀ w, (Instr.slice 9 (S nm) none (some (.int .i64 ((nm.length : Int) - rest.length))) none).run Tryd.prog w = .ok (S n2) w := fun w => by
      have h := to_S nm (nm.length - rest.length) (by omega) w
      rw [hn2, show ((nm.length - rest.length : Nat) : Int) = (nm.length : Int) - rest.length by omega] at h
      exact h
    have hn2l : n2.length ≤ nm.length := by rw [← hn2]; simp
    clear hn2
    gi_wp2_with (refine ⟨trivial, ?_⟩; gi_at_call 29; refine (callsIn_wide.2 (unhide HS _)).mono ?_; rintro e w1 ⟨rfl, hw⟩; rw [hw]; clear HS hw w1)
    gi_wp2_with (refine ⟨trivial, ?_⟩; gi_at_call 30; refine (callsIn_wide.2 (seq_S [] _)).mono ?_; rintro e W1 ⟨rfl, hw⟩; have hMS : MS w [] n2 W1 := (by rw [hw]; exact MS.start w n nm n2 [] q); have HMS := hide hMS; clear hw hMS)
    obtain ⟨R, hR⟩ : ∃ R, runsF 1 [] n2 = R := ⟨_, rfl⟩
    refine range_match w W1 [] n2 (unhide HM) (by simp) (by omega) (unhide HMS) rfl ?assign ?body ?done ?stop
    case assign =>
      intro l run W K hK
      gi_wp2
      exact hK
    case body =>
      intro l mid' nm' run W hms hlen
      obtain ⟨c0, c1, c2, c3, c4, c5, c6, c7⟩ := hms.cells
      have HI := hide (index_S nm' run W hlen ((unhide HM).below hms.2.2.2.2.2))
      have hlr := len_S run
      clear hms
      by_cases hi : Lib.index nm' run < 0
      · rw [idx_neg _ _ hi] at HI
        have Hi := hide hi
        clear hi
        gi_wp2_with (refine ⟨trivial, ?_⟩; gi_at_call 31; refine (CallsIn.inRound l (callsIn_wide.2 (unhide HI))).mono ?_; rintro e w1 ⟨rfl, hw⟩; rw [hw]; clear HI hw w1)
        exact ⟨unhide Hi, rfl⟩
      · obtain ⟨k, hk, hkl⟩ := idx_some _ _ hi
        rw [hk] at HI
        have Hk := hide hk
        have hfr : ∀ w, (Instr.slice 9 (S nm') (some (.int .i64 ((k : Int) + run.length))) none none).run Tryd.prog w = .ok (S (nm'.drop (k + run.length))) w := fun w => from_S nm' (k + run.length) hkl w
        clear hi hk
        gi_wp2_with (refine ⟨trivial, ?_⟩; gi_at_call 31; refine (CallsIn.inRound l (callsIn_wide.2 (unhide HI))).mono ?_; rintro e w1 ⟨rfl, hw⟩; rw [hw]; clear HI hw w1)
        refine ⟨by rw [unhide Hk]; omega, ?_⟩
        rw [unhide Hk, Int.toNat_natCast]
    case done =>
      intro D W hrun hA
      have hc := cell_of_row _ _ 0 _ _ _ hA.1
      have hf := frozen_of_row _ _ 0 _ _ hA.1
      have Hrun := hide hrun
      have HA := hide hA
      clear hrun hA
      gi_wp2
      obtain ⟨g1, g2, g3, g4⟩ := (unhide HA).true
      exact match_retD g1 g2 g3 g4 (by rw [Bool.true_and]; exact unhide Hrun)
    case stop =>
      intro D W hrun hA
      have Hrun := hide hrun
      have HA := hide hA
      clear hrun hA
      gi_wp2
      obtain ⟨g1, g2, g3, g4⟩ := unhide HA
      exact match_retD g1 g2 g3 g4 (by rw [Bool.true_and]; exact unhide Hrun)

end Go.Proofs.Qxb6000393aDoor
