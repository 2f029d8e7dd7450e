/-
  Statements in memory; coversResource, walked.
-/
import Derived.Test.Qxb6000393aDoorAny
import Derived.Deep.RegionWith
namespace Go.Proofs.Qxb6000393aDoor
open Go.RowKit

/-- The strings L lie at p. -/
def Strs (w : World) (v : Value) (L : List (List UInt8)) : Prop := ∃ p c, v = .slice p L.length c ∧ SegV w p L.length (fun j => S (L[j]?.getD []))
theorem Strs.below {w w' : World} {v : Value} {L : List (List UInt8)} (h : Strs w v L) (hB : Below w.heap.size w w') : Strs w' v L := by
  obtain ⟨p, c, h1, h2⟩ := h
  exact ⟨p, c, h1, h2.below hB⟩
/-- Lengths that the walks can bear. -/
def Small (L : List (List UInt8)) : Prop := L.length ≤ 100000000 ∧ ∀ s ∈ L, s.length < 4294967281
theorem Small.at {L : List (List UInt8)} (h : Small L) (j : Nat) (hj : j < L.length) : (L[j]?.getD []).length < 4294967281 := by
  rw [List.getElem?_eq_getElem hj]
  exact h.2 _ (List.getElem_mem hj)
def anyL (L : List (List UInt8)) (nm : List UInt8) : Bool := L.any fun p => matchS p nm
theorem anyM_list (L : List (List UInt8)) (nm : List UInt8) : anyM (fun j => L[j]?.getD []) L.length nm = anyL L nm := by
  unfold anyM anyL
  rw [Bool.eq_iff_iff, List.any_eq_true, List.any_eq_true]
  constructor
  · rintro ⟨j, hj, h⟩
    have hj' := List.mem_range.1 hj
    dsimp only at h
    rw [List.getElem?_eq_getElem hj'] at h
    exact ⟨_, List.getElem_mem hj', h⟩
  · rintro ⟨p, hp, h⟩
    obtain ⟨j, hj, rfl⟩ := List.getElem_of_mem hp
    exact ⟨j, List.mem_range.2 hj, by dsimp only; rw [List.getElem?_eq_getElem hj]; exact h⟩

/-- A statement: its effect, its action patterns, its resource patterns. -/
def StAt (w : World) (b o : Nat) (e : Int) (A R : List (List UInt8)) : Prop :=
  ∃ va vr, w.cell? ⟨b, o, none⟩ = some (.int .i64 e) ∧ w.cell? ⟨b, o + 1, none⟩ = some va ∧ w.cell? ⟨b, o + 2, none⟩ = some vr ∧ Strs w va A ∧ Strs w vr R
theorem StAt.below {w w' : World} {b o : Nat} {e : Int} {A R : List (List UInt8)} (h : StAt w b o e A R) (hB : Below w.heap.size w w') : StAt w' b o e A R := by
  obtain ⟨va, vr, h0, h1, h2, h3, h4⟩ := h
  have hb := World.block_lt_of_cell? _ _ h0
  exact ⟨va, vr, (hB.cell (p := ⟨b, o, none⟩) hb).trans h0, (hB.cell (p := ⟨b, o + 1, none⟩) hb).trans h1, (hB.cell (p := ⟨b, o + 2, none⟩) hb).trans h2, h3.below hB, h4.below hB⟩

set_option maxRecDepth 100000 in
set_option maxHeartbeats 1000000 in
theorem clos55 (b o bn : Nat) (e : Int) (A R : List (List UInt8)) (nm : List UInt8) (w : World) (hR : Small R) (hn : nm.length < 4294967281) (hM : HasMax w) (hc : w.cell? ⟨bn, 0, none⟩ = some (S nm)) (hs : StAt w b o e A R) :
    Calls Tryd.prog 55 #[.pointer (some ⟨b, o, none⟩), .pointer (some ⟨bn, 0, none⟩)] w (MatchPost (anyL R nm) w) := by
  obtain ⟨va, vr, h0, h1, h2, h3, ⟨p, c, rfl, h4⟩⟩ := hs
  have HC : Hid (∀ q, Calls Tryd.prog 33 #[.slice p R.length c, S nm] (w.drewN q) (MatchPost (anyL R nm) (w.drewN q))) := fun q => by
    have hB := below_drewN_any w q
    have := matches33 p R.length c (fun j => R[j]?.getD []) nm (w.drewN q) hR.1 hn (fun j hj => hR.at j hj) (hM.below hB) (h4.below hB)
    rw [anyM_list] at this
    exact this
  clear hM hR hn h0 h1 h3 h4
  go_enter Tryd.func55, Tryd.ntmps55
  go_wp2_with fail
  go_region_with (go_at_call 33; go_loud (refine (unhide HC _).mono ?_); rintro e w1 ⟨rfl, hB⟩; have HB := hide hB; clear hB)
  all_goals go_wp2
  all_goals go_ret
  all_goals exact ⟨rfl, (below_drewN_any w _).trans (unhide HB)⟩

set_option maxRecDepth 100000 in
set_option maxHeartbeats 1000000 in
theorem idxf59 (q : Option Addr) (n c bn : Nat) (Bs Os : Nat → Nat) (es : Nat → Int) (As Rs : Nat → List (List UInt8)) (nm : List UInt8) (w : World) (hn : n ≤ 100000000) (hnm : nm.length < 4294967281) (hR : ∀ j, j < n → Small (Rs j)) (hM : HasMax w)
    (hseg : SegV w q n (fun j => .pointer (some ⟨Bs j, Os j, none⟩))) (hst : ∀ j, j < n → StAt w (Bs j) (Os j) (es j) (As j) (Rs j)) (hc : w.cell? ⟨bn, 0, none⟩ = some (S nm)) :
    Calls Tryd.prog 59 #[.slice q n c, .func (.func 55) #[] #[.pointer (some ⟨bn, 0, none⟩)]] w (IdxPost ((List.range n).any fun j => anyL (Rs j) nm) w) := by
  have Hseg := hide hseg
  have HR := hide hR
  have HM := hide hM
  have Hc := hide hc
  have Hst := hide hst
  clear hseg hR hM hc hst
  go_enter Tryd.func59, Tryd.ntmps59
  go_wp2
  go_loopw [8] (fun a wr => ∃ k : Nat, a = .int .i64 (k : Int) ∧ k ≤ n ∧ (∀ j, j < k → anyL (Rs j) nm = false) ∧ Below w.heap.size w wr) (fun a _ => n - (intOf a).toNat)
  case atStart => exact ⟨0, rfl, Nat.zero_le _, fun j h => absurd h (Nat.not_lt_zero j), Below.refl _ _⟩
  case round =>
    obtain ⟨k, rfl, hk, hno, hB⟩ := hrel
    by_cases hlt : k < n
    · obtain ⟨b1, o1, rfl, hcs⟩ := unhide Hseg (by omega)
      have hck := (hB.cell (p := ⟨b1, o1 + k, none⟩) (World.block_lt_of_cell? _ _ (hcs k hlt))).trans (hcs k hlt)
      have hcb := (hB.cell (p := ⟨bn, 0, none⟩) (World.block_lt_of_cell? _ _ (unhide Hc))).trans (unhide Hc)
      have HC := hide (clos55 (Bs k) (Os k) bn (es k) (As k) (Rs k) nm wr (unhide HR k hlt) hnm ((unhide HM).below hB) hcb ((unhide Hst k hlt).below hB))
      have Hno := hide hno
      have HB := hide hB
      clear hcs hcb hno hB
      cases hm : anyL (Rs k) nm with
      | true =>
        rw [hm] at HC
        have HA : Hid (((List.range n).any fun j => anyL (Rs j) nm) = true) := List.any_eq_true.2 ⟨k, List.mem_range.2 hlt, hm⟩
        clear hm
        go_wp2_with (go_at_call 55; refine (unhide HC).mono ?_; rintro e w1 ⟨rfl, hB1⟩; have HB1 := hide hB1; clear hB1 HC)
        go_ret
        exact ⟨_, rfl, .inl ⟨unhide HA, k, rfl⟩, (unhide HB).trans ((unhide HB1).mono (unhide HB).size)⟩
      | false =>
        rw [hm] at HC
        have Hm := hide hm
        clear hm
        go_wp2_with (go_at_call 55; refine (unhide HC).mono ?_; rintro e w1 ⟨rfl, hB1⟩; have HB1 := hide hB1; clear hB1 HC)
        go_roundw
        case rel => exact ⟨k + 1, by go_num, by omega, fun j hj => (by
          by_cases e : j = k
          · rw [e]; exact unhide Hm
          · exact unhide Hno j (by omega)), (unhide HB).trans ((unhide HB1).mono (unhide HB).size)⟩
        case measure => simp [intOf]; omega
    · obtain rfl : k = n := by omega
      have HA : Hid (((List.range k).any fun j => anyL (Rs j) nm) = false) := hide (by
        rw [List.any_eq_false]
        intro j hj
        rw [hno j (List.mem_range.1 hj)]
        simp)
      have HB := hide hB
      clear hno hB
      go_wp2
      go_ret
      exact ⟨_, rfl, .inr ⟨unhide HA, rfl⟩, unhide HB⟩

/-- Pointers to statements, in a slice. -/
def Ptrs (w : World) (v : Value) (n : Nat) (Bs Os : Nat → Nat) : Prop := ∃ p c, v = .slice p n c ∧ SegV w p n (fun j => .pointer (some ⟨Bs j, Os j, none⟩))
theorem Ptrs.below {w w' : World} {v : Value} {n : Nat} {Bs Os : Nat → Nat} (h : Ptrs w v n Bs Os) (hB : Below w.heap.size w w') : Ptrs w' v n Bs Os := by
  obtain ⟨p, c, h1, h2⟩ := h
  exact ⟨p, c, h1, h2.below hB⟩

set_option maxRecDepth 100000 in
theorem cont54 (q : Option Addr) (n c bn : Nat) (Bs Os : Nat → Nat) (es : Nat → Int) (As Rs : Nat → List (List UInt8)) (nm : List UInt8) (w : World) (hn : n ≤ 100000000) (hnm : nm.length < 4294967281) (hR : ∀ j, j < n → Small (Rs j)) (hM : HasMax w)
    (hseg : SegV w q n (fun j => .pointer (some ⟨Bs j, Os j, none⟩))) (hst : ∀ j, j < n → StAt w (Bs j) (Os j) (es j) (As j) (Rs j)) (hc : w.cell? ⟨bn, 0, none⟩ = some (S nm)) :
    Calls Tryd.prog 54 #[.slice q n c, .func (.func 55) #[] #[.pointer (some ⟨bn, 0, none⟩)]] w (MatchPost ((List.range n).any fun j => anyL (Rs j) nm) w) := by
  have HC := hide (idxf59 q n c bn Bs Os es As Rs nm w hn hnm hR hM hseg hst hc)
  clear hn hnm hR hM hseg hst hc
  go_enter Tryd.func54, Tryd.ntmps54
  go_wp2_with fail
  refine (unhide HC).mono ?_
  rintro e w1 ⟨i, rfl, h, hB⟩
  have HB := hide hB
  clear hB HC
  rcases h with ⟨h1, k, rfl⟩ | ⟨h1, rfl⟩
  · have H1 := hide h1
    clear h1
    go_wp2
    go_ret
    exact ⟨by rw [unhide H1]; rfl, unhide HB⟩
  · have H1 := hide h1
    clear h1
    go_wp2
    go_ret
    exact ⟨by rw [unhide H1]; rfl, unhide HB⟩

set_option maxRecDepth 100000 in
/-- coversResource. -/
theorem covers45 (v : Value) (n : Nat) (Bs Os : Nat → Nat) (es : Nat → Int) (As Rs : Nat → List (List UInt8)) (nm : List UInt8) (w : World) (hn : n ≤ 100000000) (hnm : nm.length < 4294967281) (hR : ∀ j, j < n → Small (Rs j)) (hM : HasMax w)
    (hv : Ptrs w v n Bs Os) (hst : ∀ j, j < n → StAt w (Bs j) (Os j) (es j) (As j) (Rs j)) :
    Calls Tryd.prog 45 #[v, S nm] w (MatchPost ((List.range n).any fun j => anyL (Rs j) nm) w) := by
  obtain ⟨q, c, rfl, hseg⟩ := hv
  have cS := cells_S
  simp only [Value.cells] at cS
  have hB0 : Below w.heap.size w (w.alloc (.cells #[S nm] 9)) := (Below.refl _ w).alloc (Nat.le_refl _) _
  have HC := hide (cont54 q n c w.heap.size Bs Os es As Rs nm (w.alloc (.cells #[S nm] 9)) hn hnm hR (hM.below hB0) (hseg.below hB0) (fun j hj => (hst j hj).below hB0) (by rw [World.cell?_alloc_at _ _ _ _ rfl]; rfl))
  have HB0 := hide hB0
  clear hn hnm hR hM hseg hst hB0
  go_enter Tryd.func45, Tryd.ntmps45
  go_wp2_with fail
  refine (unhide HC).mono ?_
  rintro e w1 ⟨rfl, hB⟩
  have HB : Hid (Below w.heap.size w w1) := (unhide HB0).trans (hB.mono (by simp))
  clear hB HC HB0
  go_wp2
  go_ret
  exact ⟨rfl, unhide HB⟩

end Go.Proofs.Qxb6000393aDoor
