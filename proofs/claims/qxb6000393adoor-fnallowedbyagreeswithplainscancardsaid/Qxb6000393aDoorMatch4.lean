/-
  Match where the pattern has a second star; Match as a whole.
-/
import Derived.Test.Qxb6000393aDoorMatch3
import Derived.Sort.QuietIn
namespace Go.Proofs.Qxb6000393aDoor
open Go.RowKit Go.Shelf
attribute [local go_sem] Oper.semAt_some

theorem MS.start2 (w : World) (n nm n2 mid : List UInt8) (q nq : Nat) : MS w mid n2 (three ((((((w.alloc (.cells #[S n] 9)).alloc (.cells #[.bool false] 4)).drewN q).setCell ⟨w.heap.size, 0, none⟩ (S nm)).drewN nq).setCell ⟨w.heap.size, 0, none⟩ (S n2)) mid) := by
  obtain ⟨h0, h1, h2, h3, h4, h5⟩ := MS.start w n nm n2 mid q
  exact ⟨h0, h1, h2, h3, h4, ⟨h5.os, h5.tape, h5.output, h5.size, h5.block⟩⟩

set_option maxRecDepth 100000 in
set_option maxHeartbeats 2000000 in
/-- A second star. -/
theorem match_two (p n head rest nm mid tail : List UInt8) (k : Nat) (w : World) (hp : p.length < 4294967281) (hn : n.length < 4294967281) (hM : HasMax w) (hc : Lib.cut p [42] = (head, rest, true)) (hr : rest.length < 4294967281) (hh : Lib.hasPrefix n head = true)
    (hl : Lib.lastIndexByte ⟨rest.toArray⟩ 42 = (k : Int)) (hkl : k < rest.length) (hmd : rest.take k = mid) (htl : rest.drop (k + 1) = tail) (hnm : n.drop head.length = nm) (n2 : List UInt8) (hn2 : nm.take (nm.length - tail.length) = n2) (b : Bool) (hs : Lib.hasSuffix nm tail = b) : Calls Tryd.prog 10 #[S p, S n] w (MatchPost (b && runsF (mid.length + 1) mid n2) w) := by
  have gS := guard_S
  have stS := store_S
  have cS := cells_S
  simp only [Value.cells] at cS
  have HC := hide (cut_S p ((w.alloc (.cells #[S n] 9)).alloc (.cells #[.bool false] 4)) hp (hM.below (((Below.refl _ w).alloc (Nat.le_refl _) _).alloc (by simp) _)))
  rw [hc] at HC
  have HP := hide (pre_S n head)
  rw [hh] at HP
  have HL := hide (fun w => last_S rest w (by omega))
  rw [hl] at HL
  have hln := len_S head
  have hto1 := to_S rest k (by omega)
  rw [hmd] at hto1
  have hfr1 : ∀ w, (Instr.slice 9 (S rest) (some (.int .i64 ((k : Int) + 1))) none none).run Tryd.prog w = .ok (S tail) w := fun w => by
    have h := from_S rest (k + 1) (by omega) w
    rw [htl] at h
    exact h
  have hml : mid.length < 4294967281 := by rw [← hmd]; simp; omega
  have hsl := from_S n head.length (pre_len hh)
  rw [hnm] at hsl
  have hnl : nm.length ≤ n.length := by rw [← hnm]; simp
  have HS := hide (fun w => suf_S nm tail w (by omega))
  rw [hs] at HS
  have Hs := hide hs
  have HM := hide hM
  clear hM hc hh hl hs hp hnm hmd htl
  refine (callsIn_wide (n := 4)).1 ?_
  refine callsIn_of_wp_marks Tryd.func10 rfl trivial ?_ rfl
  simp only [Tryd.ntmps10, List.size_toArray, List.length_cons, List.length_nil, Nat.reduceAdd, Nat.reduceSub, Array.replicate_succ, Array.replicate_zero, List.push_toArray, List.append_toArray, List.nil_append, List.cons_append]
  gi_wp2_with (refine ⟨trivial, ?_⟩; gi_at_call 26; refine (callsIn_wide.2 (unhide HC)).mono ?_; rintro e w1 ⟨rfl, q, hw⟩; rw [hw]; clear HC hw w1)
  gi_wp2_with (refine ⟨trivial, ?_⟩; gi_at_call 27; refine (callsIn_wide.2 (unhide HP _)).mono ?_; rintro e w1 ⟨rfl, hw⟩; rw [hw]; clear HP hw w1)
  gi_wp2_with (refine ⟨trivial, ?_⟩; gi_at_call 28; refine (callsIn_wide.2 (unhide HL _)).mono ?_; rintro e w1 ⟨rfl, hw⟩; rw [hw]; clear HL hw w1)
  gi_quiet (fail)
  cases b with
  | false =>
    gi_wp2_with (refine ⟨trivial, ?_⟩; gi_at_call 29; refine (callsIn_wide.2 (unhide HS _)).mono ?_; rintro e w1 ⟨rfl, hw⟩; rw [hw]; clear HS hw w1)
    refine match_retM (b := false) ?_ ?_
    · have h : ((((w.alloc (.cells #[S n] 9)).alloc (.cells #[.bool false] 4)).drewN q).setCell ⟨w.heap.size, 0, none⟩ (S nm)).cell? ⟨w.heap.size + 1, 0, none⟩ = some (.bool false) := (World.cell?_setCell_other _ _ _ _ (by simp)).trans (two_cell w n q)
      exact World.cell?_setCell_same (u := .bool false) _ _ _ h
    · have h : Below w.heap.size w ((((w.alloc (.cells #[S n] 9)).alloc (.cells #[.bool false] 4)).drewN q).setCell ⟨w.heap.size, 0, none⟩ (S nm)) := ((((Below.refl _ w).alloc (Nat.le_refl _) _).alloc (by simp) _).trans ((below_drewN_any _ q).mono (by simp; omega))).setCell (by simp) _
      exact (h.trans ((below_drewN_any _ nq).mono (by simp; omega))).setCell (by simp) _
  | true =>
    have hl2 := len_S nm
    have hl3 := len_S tail
    have hle := suf_len (unhide Hs)
    have hto : ∀ w, (Instr.slice 9 (S nm) none (some (.int .i64 ((nm.length : Int) - tail.length))) none).run Tryd.prog w = .ok (S n2) w := fun w => by
      have h := to_S nm (nm.length - tail.length) (by omega) w
      rw [hn2, show ((nm.length - tail.length : Nat) : Int) = (nm.length : Int) - tail.length by omega] at h
      exact h
    have hn2l : n2.length ≤ nm.length := by rw [← hn2]; simp
    clear hn2
    gi_wp2_with (refine ⟨trivial, ?_⟩; gi_at_call 29; refine (callsIn_wide.2 (unhide HS _)).mono ?_; rintro e w1 ⟨rfl, hw⟩; rw [hw]; clear HS hw w1)
    gi_wp2_with (refine ⟨trivial, ?_⟩; gi_at_call 30; refine (callsIn_wide.2 (seq_S mid _)).mono ?_; rintro e W1 ⟨rfl, hw⟩; have hMS : MS w mid n2 W1 := (by rw [hw]; exact MS.start2 w n nm n2 mid q nq); have HMS := hide hMS; clear hw hMS)
    obtain ⟨R, hR⟩ : ∃ R, runsF (mid.length + 1) mid n2 = R := ⟨_, rfl⟩
    refine range_match w W1 mid n2 (unhide HM) hml (by omega) (unhide HMS) rfl ?assign ?body ?done ?stop
    case assign =>
      intro l run W K hK
      gi_wp2
      exact hK
    case body =>
      intro l mid' nm' run W hms hlen
      obtain ⟨c0, c1, c2, c3, c4, c5, c6, c7⟩ := hms.cells
      have HI := hide (index_S nm' run W hlen ((unhide HM).below hms.2.2.2.2.2))
      have hlr := len_S run
      clear hms
      by_cases hi : Lib.index nm' run < 0
      · rw [idx_neg _ _ hi] at HI
        have Hi := hide hi
        clear hi
        gi_wp2_with (refine ⟨trivial, ?_⟩; gi_at_call 31; refine (CallsIn.inRound l (callsIn_wide.2 (unhide HI))).mono ?_; rintro e w1 ⟨rfl, hw⟩; rw [hw]; clear HI hw w1)
        exact ⟨unhide Hi, rfl⟩
      · obtain ⟨k, hk, hkl⟩ := idx_some _ _ hi
        rw [hk] at HI
        have Hk := hide hk
        have hfr : ∀ w, (Instr.slice 9 (S nm') (some (.int .i64 ((k : Int) + run.length))) none none).run Tryd.prog w = .ok (S (nm'.drop (k + run.length))) w := fun w => from_S nm' (k + run.length) hkl w
        clear hi hk
        gi_wp2_with (refine ⟨trivial, ?_⟩; gi_at_call 31; refine (CallsIn.inRound l (callsIn_wide.2 (unhide HI))).mono ?_; rintro e w1 ⟨rfl, hw⟩; rw [hw]; clear HI hw w1)
        refine ⟨by rw [unhide Hk]; omega, ?_⟩
        rw [unhide Hk, Int.toNat_natCast]
    case done =>
      intro D W hrun hA
      have hc := cell_of_row _ _ 0 _ _ _ hA.1
      have hf := frozen_of_row _ _ 0 _ _ hA.1
      have Hrun := hide hrun
      have HA := hide hA
      clear hrun hA
      gi_wp2
      obtain ⟨g1, g2, g3, g4⟩ := (unhide HA).true
      exact match_retD g1 g2 g3 g4 (by rw [Bool.true_and]; exact unhide Hrun)
    case stop =>
      intro D W hrun hA
      have Hrun := hide hrun
      have HA := hide hA
      clear hrun hA
      gi_wp2
      obtain ⟨g1, g2, g3, g4⟩ := unhide HA
      exact match_retD g1 g2 g3 g4 (by rw [Bool.true_and]; exact unhide Hrun)

end Go.Proofs.Qxb6000393aDoor
