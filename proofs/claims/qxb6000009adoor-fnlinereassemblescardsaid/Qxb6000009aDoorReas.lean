/-
  FnLineReassembles, walked: it answers true whatever it is handed.
-/
import Derived.Test.Qxb6000009aDoorSpec
namespace Go.Proofs.Qxb6000009aDoor
open Go.RowKit

set_option maxRecDepth 100000 in
set_option maxHeartbeats 400000 in
theorem reas_out (p : Option Addr) (n c : Nat) (w : World) (hn : n ≤ 9223372036854775807) (h : 65536 < n) :
    Calls Tryd.prog 4 #[.slice p n c] w (TruePost w) := by
  by_cases hb : n ≤ 1048576
  all_goals
    go_enter Tryd.func4, Tryd.ntmps4
    go_wp2
    go_ret
    exact ⟨rfl, Below.refl _ _⟩

set_option maxRecDepth 100000 in
set_option maxHeartbeats 4000000 in
theorem reas_in (p : Option Addr) (n c : Nat) (f : Nat → Int) (w : World) (hn : n ≤ 65536) (hseg : Seg w p n f) (hf : ∀ j, j < n → 0 ≤ f j ∧ f j ≤ 255) (hT : Tabs w) (hnil : p = none → n = 0 ∧ c = 0) :
    Calls Tryd.prog 4 #[.slice p n c] w (TruePost w) := by
  have hC := hide (cloneBytes_any p n c f w (by omega) hseg hnil)
  have Hf := hide hf
  have HT := hide hT
  clear hf hT hseg hnil
  go_enter Tryd.func4, Tryd.ntmps4
  go_wp2_with (go_at_call 11; go_in)
  refine (unhide hC).mono ?_
  rintro e w2 ⟨q, rfl, hseg2, hB2⟩
  have hT2 := hide ((unhide HT).below hB2)
  have Hseg2 := hide hseg2
  clear hC HT hseg2
  go_wp2
  go_loopw [3, 4, 5] (fun a b d wr => ∃ P N : Nat, P ≤ n ∧ N ≤ P ∧ a = .int .i64 P ∧ b = .int .i64 0 ∧ d = .int .i64 N ∧ Below w2.heap.size w2 wr) (fun _ _ d _ => n + 1 - (intOf d).toNat)
  case atStart => exact ⟨0, 0, Nat.zero_le _, Nat.le_refl _, rfl, rfl, rfl, Below.refl _ _⟩
  case round =>
    obtain ⟨P, N, hP, hN, rfl, rfl, rfl, hB⟩ := hrel
    have hsw : Seg wr q n f := (unhide Hseg2).below hB
    have hZ := hide (zz_any q n n P 0 true f wr (by omega) (Nat.le_refl _) (by omega) hP (Nat.zero_le _) hsw (unhide Hf) ((unhide hT2).below hB))
    have hNn : (N : Int) ≤ (n : Int) := by omega
    rcases first_or f P n with hno | ⟨i, hi1, hi2, hE, hno⟩
    · have s1 := slice_l q n n P hP
      have Hno := hide hno
      have Hsw := hide hsw
      clear hno hsw
      go_wp2_with fail
      refine (unhide hZ).mono ?_
      rintro e w3 ⟨q', L, C, ok, np, ns, rfl, hLS, hB3⟩
      obtain ⟨rfl, rfl, rfl, rfl, rfl, rfl⟩ := hLS.miss (unhide Hno)
      have hNE := hide (noLineEnd_any (subp q np n) (n - np) (n - np) (fun j => f (np + j)) w3 (by omega) (((unhide Hsw).sub hP (Nat.le_refl _)).below hB3))
      clear hLS hZ
      have e1 : ((n - np : Nat) : Int) = (n : Int) - np := by omega
      have t1 : (((n - np : Nat) : Int) == (n : Int) - np) = true := by rw [beq_iff_eq]; omega
      clear e1
      go_wp2_with fail
      refine (unhide hNE).mono ?_
      rintro e w5 ⟨r, rfl, hr, hw5⟩
      obtain rfl : r = true := hr.2 (fun j hj => unhide Hno (np + j) (by omega) (by omega))
      subst hw5
      clear hr hNE
      go_wp2
      go_ret
      exact ⟨rfl, hB2.trans ((hB.trans (hB3.mono hB.size)).mono hB2.size)⟩
    · obtain ⟨k, rfl⟩ : ∃ k, i = P + k := ⟨i - P, by omega⟩
      obtain ⟨b, o, rfl, hcs⟩ := hsw (by omega)
      have hb : b < wr.heap.size := World.block_lt_of_cell? _ _ (hcs 0 (by omega))
      have Hcs := hide hcs
      have Hno := hide hno
      have HE := hide hE
      have c1 : wr.cell? ⟨b, o + P + k, none⟩ = some (.int .u8 (f (P + k))) := by rw [show o + P + k = o + (P + k) from by omega]; exact hcs _ hi2
      clear hcs hno hsw Hseg2 hT2 Hf
      obtain ⟨x, hx⟩ : ∃ x, f (P + k) = x := ⟨_, rfl⟩
      rw [hx] at c1 hE
      have Hx := hide hx
      clear hx
      rcases hE with rfl | rfl
      · by_cases hk1 : P + k + 1 < n
        · obtain ⟨y, hy⟩ : ∃ y, f (P + k + 1) = y := ⟨_, rfl⟩
          have Hy := hide hy
          clear hy
          by_cases y10 : y = 10
          · subst y10
            have hwd : Hid (wid f n (P + k) = 2) := by unfold wid; rw [if_pos ⟨unhide Hx, hk1, unhide Hy⟩]; exact rfl
            have c2 : wr.cell? ⟨b, o + P + k + 1, none⟩ = some (.int .u8 10) := by rw [show o + P + k + 1 = o + (P + k + 1) from by omega, unhide Hcs _ hk1, unhide Hy]
            have s1 := slice_lh (some ⟨b, o, none⟩) n n P (P + k + 2) (by omega) (by omega) (Nat.le_refl _)
            rw [subp_some (by omega), show P + k + 2 - P = k + 2 from by omega] at s1
            simp only [Int.natCast_add, Int.cast_ofNat_Int] at s1
            have s2 := slice_h' (some ⟨b, o + P, none⟩) (k + 2) (n - P) k (by omega) (by omega)
            have s3 := slice_l (some ⟨b, o + P, none⟩) (k + 2) (n - P) k (by omega)
            rw [subp_some (by omega), show k + 2 - k = 2 from by omega] at s3
            go_wp2_with fail
            refine (unhide hZ).mono ?_
            rintro e w3 ⟨q', L, C, ok, np, ns, rfl, hLS, hB3⟩
            obtain ⟨rfl, rfl, hq', hL', rfl, hnp⟩ := hLS.hit (i := P + k) (by omega) (by omega) (unhide HE) (unhide Hno) (fun j h1 h2 => by omega) (fun h => by cases h.2.2)
            obtain rfl : k = L := by omega
            obtain rfl : np = P + k + 2 := by rw [hnp, unhide hwd]
            rw [subp_some (by omega)] at hq'
            subst hq'
            have hbw : b < w3.heap.size := Nat.lt_of_lt_of_le hb hB3.size
            have g1 : w3.cell? ⟨b, o + P + k, none⟩ = some (.int .u8 13) := (hB3.cell (p := ⟨b, o + P + k, none⟩) hb).trans c1
            have g2 : w3.cell? ⟨b, o + P + k + 1, none⟩ = some (.int .u8 10) := (hB3.cell (p := ⟨b, o + P + k + 1, none⟩) hb).trans c2
            have hsg : Seg w3 (some ⟨b, o + P, none⟩) k (fun j => f (P + j)) := Seg.below (fun _ => ⟨b, o + P, rfl, fun j hj => by rw [show o + P + j = o + (P + j) from by omega]; exact unhide Hcs (P + j) (by omega)⟩) hB3
            have hEq := hide (bytesEqual_any (some ⟨b, o + P, none⟩) (some ⟨b, o + P, none⟩) k (n - P) k (n - P) _ _ w3 (by omega) (by omega) hsg hsg)
            have hNE : Hid (∀ qq, Calls Tryd.prog 7 #[.slice (some ⟨b, o + P, none⟩) k (n - P)] (w3.drewN qq) (NoEndPost (fun j => f (P + j)) k (w3.drewN qq))) := fun qq => noLineEnd_any (some ⟨b, o + P, none⟩) k (n - P) (fun j => f (P + j)) (w3.drewN qq) (by omega) (hsg.below (below_drewN_any _ _))
            clear hLS hZ hnp hL' hsg c1
            go_wp2_with fail
            refine (unhide hEq).mono ?_
            rintro e w4 ⟨r, rfl, hr, qq, rfl⟩
            obtain rfl : r = true := hr.2 ⟨rfl, fun _ _ => rfl⟩
            clear hr hEq
            go_wp2_with fail
            refine (unhide hNE _).mono ?_
            rintro e w5 ⟨r, rfl, hr, hw5⟩
            obtain rfl : r = true := hr.2 (fun j hj => unhide Hno (P + j) (by omega) (by omega))
            subst hw5
            clear hr hNE
            go_wp2
            go_roundw
            case rel => exact ⟨P + k + 2, N + 1, by omega, by omega, by go_num, rfl, by go_num, (hB.trans (hB3.mono hB.size)).trans ((below_drewN_any _ _).mono (Nat.le_trans hB.size hB3.size))⟩
            case measure => simp [intOf]; omega
          · have e10 : (y == 10) = false := by rw [beq_eq_false_iff_ne]; exact y10
            have hwd : Hid (wid f n (P + k) = 1) := by unfold wid; rw [if_neg (fun h => y10 (by rw [← unhide Hy]; exact h.2.2))]; exact rfl
            have c2 : wr.cell? ⟨b, o + (P + k + 1), none⟩ = some (.int .u8 y) := by rw [unhide Hcs _ hk1, unhide Hy]
            have hki : (P : Int) + k + 1 < (n : Int) := by omega
            clear y10
            have s1 := slice_lh (some ⟨b, o, none⟩) n n P (P + k + 1) (by omega) (by omega) (Nat.le_refl _)
            rw [subp_some (by omega), show P + k + 1 - P = k + 1 from by omega] at s1
            simp only [Int.natCast_add, Int.cast_ofNat_Int] at s1
            have s2 := slice_h' (some ⟨b, o + P, none⟩) (k + 1) (n - P) k (by omega) (by omega)
            have s3 := slice_l (some ⟨b, o + P, none⟩) (k + 1) (n - P) k (by omega)
            rw [subp_some (by omega), show k + 1 - k = 1 from by omega] at s3
            go_wp2_with fail
            refine (unhide hZ).mono ?_
            rintro e w3 ⟨q', L, C, ok, np, ns, rfl, hLS, hB3⟩
            obtain ⟨rfl, rfl, hq', hL', rfl, hnp⟩ := hLS.hit (i := P + k) (by omega) (by omega) (unhide HE) (unhide Hno) (fun j h1 h2 => by omega) (fun h => by cases h.2.2)
            obtain rfl : k = L := by omega
            obtain rfl : np = P + k + 1 := by rw [hnp, unhide hwd]
            rw [subp_some (by omega)] at hq'
            subst hq'
            have hbw : b < w3.heap.size := Nat.lt_of_lt_of_le hb hB3.size
            have g1 : w3.cell? ⟨b, o + P + k, none⟩ = some (.int .u8 13) := (hB3.cell (p := ⟨b, o + P + k, none⟩) hb).trans c1
            have g2 : w3.cell? ⟨b, o + (P + k + 1), none⟩ = some (.int .u8 y) := (hB3.cell (p := ⟨b, o + (P + k + 1), none⟩) hb).trans c2
            have hsg : Seg w3 (some ⟨b, o + P, none⟩) k (fun j => f (P + j)) := Seg.below (fun _ => ⟨b, o + P, rfl, fun j hj => by rw [show o + P + j = o + (P + j) from by omega]; exact unhide Hcs (P + j) (by omega)⟩) hB3
            have hEq := hide (bytesEqual_any (some ⟨b, o + P, none⟩) (some ⟨b, o + P, none⟩) k (n - P) k (n - P) _ _ w3 (by omega) (by omega) hsg hsg)
            have hNE : Hid (∀ qq, Calls Tryd.prog 7 #[.slice (some ⟨b, o + P, none⟩) k (n - P)] (w3.drewN qq) (NoEndPost (fun j => f (P + j)) k (w3.drewN qq))) := fun qq => noLineEnd_any (some ⟨b, o + P, none⟩) k (n - P) (fun j => f (P + j)) (w3.drewN qq) (by omega) (hsg.below (below_drewN_any _ _))
            clear hLS hZ hnp hL' hsg c1
            go_wp2_with fail
            refine (unhide hEq).mono ?_
            rintro e w4 ⟨r, rfl, hr, qq, rfl⟩
            obtain rfl : r = true := hr.2 ⟨rfl, fun _ _ => rfl⟩
            clear hr hEq
            go_wp2_with fail
            refine (unhide hNE _).mono ?_
            rintro e w5 ⟨r, rfl, hr, hw5⟩
            obtain rfl : r = true := hr.2 (fun j hj => unhide Hno (P + j) (by omega) (by omega))
            subst hw5
            clear hr hNE
            go_wp2
            go_roundw
            case rel => exact ⟨P + k + 1, N + 1, by omega, by omega, by go_num, rfl, by go_num, (hB.trans (hB3.mono hB.size)).trans ((below_drewN_any _ _).mono (Nat.le_trans hB.size hB3.size))⟩
            case measure => simp [intOf]; omega
        · have hki : ¬ (P : Int) + k + 1 < (n : Int) := by omega
          have hwd : Hid (wid f n (P + k) = 1) := by unfold wid; rw [if_neg (fun h => by omega)]; exact rfl
          have s1 := slice_lh (some ⟨b, o, none⟩) n n P (P + k + 1) (by omega) (by omega) (Nat.le_refl _)
          rw [subp_some (by omega), show P + k + 1 - P = k + 1 from by omega] at s1
          simp only [Int.natCast_add, Int.cast_ofNat_Int] at s1
          have s2 := slice_h' (some ⟨b, o + P, none⟩) (k + 1) (n - P) k (by omega) (by omega)
          have s3 := slice_l (some ⟨b, o + P, none⟩) (k + 1) (n - P) k (by omega)
          rw [subp_some (by omega), show k + 1 - k = 1 from by omega] at s3
          go_wp2_with fail
          refine (unhide hZ).mono ?_
          rintro e w3 ⟨q', L, C, ok, np, ns, rfl, hLS, hB3⟩
          obtain ⟨rfl, rfl, hq', hL', rfl, hnp⟩ := hLS.hit (i := P + k) (by omega) (by omega) (unhide HE) (unhide Hno) (fun j h1 h2 => by omega) (fun h => by cases h.2.2)
          obtain rfl : k = L := by omega
          obtain rfl : np = P + k + 1 := by rw [hnp, unhide hwd]
          rw [subp_some (by omega)] at hq'
          subst hq'
          have hbw : b < w3.heap.size := Nat.lt_of_lt_of_le hb hB3.size
          have g1 : w3.cell? ⟨b, o + P + k, none⟩ = some (.int .u8 13) := (hB3.cell (p := ⟨b, o + P + k, none⟩) hb).trans c1
          have hsg : Seg w3 (some ⟨b, o + P, none⟩) k (fun j => f (P + j)) := Seg.below (fun _ => ⟨b, o + P, rfl, fun j hj => by rw [show o + P + j = o + (P + j) from by omega]; exact unhide Hcs (P + j) (by omega)⟩) hB3
          have hEq := hide (bytesEqual_any (some ⟨b, o + P, none⟩) (some ⟨b, o + P, none⟩) k (n - P) k (n - P) _ _ w3 (by omega) (by omega) hsg hsg)
          have hNE : Hid (∀ qq, Calls Tryd.prog 7 #[.slice (some ⟨b, o + P, none⟩) k (n - P)] (w3.drewN qq) (NoEndPost (fun j => f (P + j)) k (w3.drewN qq))) := fun qq => noLineEnd_any (some ⟨b, o + P, none⟩) k (n - P) (fun j => f (P + j)) (w3.drewN qq) (by omega) (hsg.below (below_drewN_any _ _))
          clear hLS hZ hnp hL' hsg c1
          go_wp2_with fail
          refine (unhide hEq).mono ?_
          rintro e w4 ⟨r, rfl, hr, qq, rfl⟩
          obtain rfl : r = true := hr.2 ⟨rfl, fun _ _ => rfl⟩
          clear hr hEq
          go_wp2_with fail
          refine (unhide hNE _).mono ?_
          rintro e w5 ⟨r, rfl, hr, hw5⟩
          obtain rfl : r = true := hr.2 (fun j hj => unhide Hno (P + j) (by omega) (by omega))
          subst hw5
          clear hr hNE
          go_wp2
          go_roundw
          case rel => exact ⟨P + k + 1, N + 1, by omega, by omega, by go_num, rfl, by go_num, (hB.trans (hB3.mono hB.size)).trans ((below_drewN_any _ _).mono (Nat.le_trans hB.size hB3.size))⟩
          case measure => simp [intOf]; omega
      · have hwd : Hid (wid f n (P + k) = 1) := by unfold wid; rw [if_neg (fun h => by rw [unhide Hx] at h; omega)]; exact rfl
        have s1 := slice_lh (some ⟨b, o, none⟩) n n P (P + k + 1) (by omega) (by omega) (Nat.le_refl _)
        rw [subp_some (by omega), show P + k + 1 - P = k + 1 from by omega] at s1
        simp only [Int.natCast_add, Int.cast_ofNat_Int] at s1
        have s2 := slice_h' (some ⟨b, o + P, none⟩) (k + 1) (n - P) k (by omega) (by omega)
        have s3 := slice_l (some ⟨b, o + P, none⟩) (k + 1) (n - P) k (by omega)
        rw [subp_some (by omega), show k + 1 - k = 1 from by omega] at s3
        go_wp2_with fail
        refine (unhide hZ).mono ?_
        rintro e w3 ⟨q', L, C, ok, np, ns, rfl, hLS, hB3⟩
        obtain ⟨rfl, rfl, hq', hL', rfl, hnp⟩ := hLS.hit (i := P + k) (by omega) (by omega) (unhide HE) (unhide Hno) (fun j h1 h2 => by omega) (fun h => by cases h.2.2)
        obtain rfl : k = L := by omega
        obtain rfl : np = P + k + 1 := by rw [hnp, unhide hwd]
        rw [subp_some (by omega)] at hq'
        subst hq'
        have hbw : b < w3.heap.size := Nat.lt_of_lt_of_le hb hB3.size
        have g1 : w3.cell? ⟨b, o + P + k, none⟩ = some (.int .u8 10) := (hB3.cell (p := ⟨b, o + P + k, none⟩) hb).trans c1
        have hsg : Seg w3 (some ⟨b, o + P, none⟩) k (fun j => f (P + j)) := Seg.below (fun _ => ⟨b, o + P, rfl, fun j hj => by rw [show o + P + j = o + (P + j) from by omega]; exact unhide Hcs (P + j) (by omega)⟩) hB3
        have hEq := hide (bytesEqual_any (some ⟨b, o + P, none⟩) (some ⟨b, o + P, none⟩) k (n - P) k (n - P) _ _ w3 (by omega) (by omega) hsg hsg)
        have hNE : Hid (∀ qq, Calls Tryd.prog 7 #[.slice (some ⟨b, o + P, none⟩) k (n - P)] (w3.drewN qq) (NoEndPost (fun j => f (P + j)) k (w3.drewN qq))) := fun qq => noLineEnd_any (some ⟨b, o + P, none⟩) k (n - P) (fun j => f (P + j)) (w3.drewN qq) (by omega) (hsg.below (below_drewN_any _ _))
        clear hLS hZ hnp hL' hsg c1
        go_wp2_with fail
        refine (unhide hEq).mono ?_
        rintro e w4 ⟨r, rfl, hr, qq, rfl⟩
        obtain rfl : r = true := hr.2 ⟨rfl, fun _ _ => rfl⟩
        clear hr hEq
        go_wp2_with fail
        refine (unhide hNE _).mono ?_
        rintro e w5 ⟨r, rfl, hr, hw5⟩
        obtain rfl : r = true := hr.2 (fun j hj => unhide Hno (P + j) (by omega) (by omega))
        subst hw5
        clear hr hNE
        go_wp2
        go_roundw
        case rel => exact ⟨P + k + 1, N + 1, by omega, by omega, by go_num, rfl, by go_num, (hB.trans (hB3.mono hB.size)).trans ((below_drewN_any _ _).mono (Nat.le_trans hB.size hB3.size))⟩
        case measure => simp [intOf]; omega

end Go.Proofs.Qxb6000009aDoor
