/-
  FnLineTakesExactlyOneLine, walked: it answers true whatever it is handed.
-/
import Derived.Test.Qxb6000583aDoorGen
namespace Go.Proofs.Qxb6000583aDoor
open Go.RowKit

set_option maxRecDepth 100000 in
set_option maxHeartbeats 800000 in
/-- The inputs that the law passes by at once. -/
theorem one_out (p : Option Addr) (n c : Nat) (pos scanned : Int) (final : Bool) (w : World) (hn : n ≤ 9223372036854775807) (h : 1048576 < n ∨ (n ≤ 1048576 ∧ (pos < 0 ∨ n < pos)) ∨ (n ≤ 1048576 ∧ 0 ≤ pos ∧ pos ≤ n ∧ (scanned < 0 ∨ n - pos < scanned))) :
    Calls Tryd.prog 4 #[.slice p n c, .int .i64 pos, .int .i64 scanned, .bool final] w (TruePost w) := by
  rcases h with h | ⟨h, h1⟩ | ⟨h, h1, h2, h3⟩
  · go_enter Tryd.func4, Tryd.ntmps4
    go_wp2
    go_ret
    exact ⟨rfl, Below.refl _ _⟩
  · rcases h1 with h1 | h1
    · go_enter Tryd.func4, Tryd.ntmps4
      go_wp2
      go_ret
      exact ⟨rfl, Below.refl _ _⟩
    · have h0 : ¬ pos < 0 := by omega
      go_enter Tryd.func4, Tryd.ntmps4
      go_wp2
      go_ret
      exact ⟨rfl, Below.refl _ _⟩
  · rcases h3 with h3 | h3
    · go_enter Tryd.func4, Tryd.ntmps4
      go_wp2
      go_ret
      exact ⟨rfl, Below.refl _ _⟩
    · have h0 : ¬ scanned < 0 := by omega
      go_enter Tryd.func4, Tryd.ntmps4
      go_wp2
      go_ret
      exact ⟨rfl, Below.refl _ _⟩

set_option maxRecDepth 100000 in
set_option maxHeartbeats 8000000 in
/-- The inputs that the law speaks of. -/
theorem one_in (p : Option Addr) (n c pos scanned : Nat) (final : Bool) (f : Nat → Int) (w : World) (hn : n ≤ 1048576) (hp : pos ≤ n) (hs : scanned ≤ n - pos)
    (hseg : Seg w p n f) (hf : ∀ j, j < n → 0 ≤ f j ∧ f j ≤ 255) (hT : Tabs w) (hnil : p = none → n = 0 ∧ c = 0) :
    Calls Tryd.prog 4 #[.slice p n c, .int .i64 pos, .int .i64 scanned, .bool final] w (TruePost w) := by
  have hC := hide (cloneBytes_any p n c f w (by omega) hseg hnil)
  have Hf := hide hf
  have HT := hide hT
  have Hseg := hide hseg
  clear hf hT hseg hnil
  have t1 : ¬ (pos : Int) < 0 := by omega
  have t2 : ¬ (n : Int) < (pos : Int) := by omega
  have t3 : ¬ (scanned : Int) < 0 := by omega
  have t4 : ¬ (n : Int) - (pos : Int) < (scanned : Int) := by omega
  go_enter Tryd.func4, Tryd.ntmps4
  go_wp2
  go_loop [9] (fun i => ∃ k : Nat, k ≤ scanned ∧ i = .int .i64 k ∧ ∀ j, j < k → ¬ isE (f (pos + j))) (fun i => scanned - (intOf i).toNat)
  case atStart => exact ⟨0, Nat.zero_le _, rfl, fun j h => absurd h (Nat.not_lt_zero j)⟩
  case round =>
    obtain ⟨k, hk, rfl, hno⟩ := hrel
    have Hno := hide hno
    clear hno
    by_cases hlt : k < scanned
    · obtain ⟨b, o, rfl, hcs⟩ := unhide Hseg (by omega)
      have hck := hcs (pos + k) (by omega)
      clear hcs
      obtain ⟨x, hx⟩ : ∃ x, f (pos + k) = x := ⟨_, rfl⟩
      simp only [hx] at hck
      have Hx := hide hx
      clear hx
      by_cases hE : isE x
      · have ht : (x == 13) = true ∨ ((x == 13) = false ∧ (x == 10) = true) := by
          rcases hE with h | h
          · exact Or.inl (by simp [h])
          · exact Or.inr (by simp [h])
        clear hE
        rcases ht with ht | ⟨ht, ht'⟩
        all_goals
          go_wp2
          go_ret
          exact ⟨rfl, Below.refl _ _⟩
      · have x13 : (x == 13) = false := by rw [beq_eq_false_iff_ne]; exact fun h => hE (Or.inl h)
        have x10 : (x == 10) = false := by rw [beq_eq_false_iff_ne]; exact fun h => hE (Or.inr h)
        have HE : Hid (¬ isE (f (pos + k))) := by rw [unhide Hx]; exact hE
        clear hE
        go_wp2
        go_round
        case rel => exact ⟨k + 1, by omega, by go_num, fun j hj => by
          by_cases e : j = k
          · subst e; exact unhide HE
          · exact unhide Hno j (by omega)⟩
        case measure => simp [intOf]; omega
    · obtain rfl : k = scanned := by omega
      have hsc : Hid (∀ j, pos ≤ j → j < pos + k → ¬ isE (f j)) := fun j h1 h2 => by
        have : ¬ isE (f (pos + (j - pos))) := unhide Hno (j - pos) (by omega)
        rwa [show pos + (j - pos) = j from by omega] at this
      clear Hno hlt hk Hseg
      go_wp2_with fail
      refine (unhide hC).mono ?_
      rintro e w2 ⟨q, rfl, hseg2, hB2⟩
      clear hC t3 t4
      have hT2 := hide ((unhide HT).below hB2)
      obtain ⟨rp, hrp⟩ : ∃ rp, rp = subp q pos n := ⟨_, rfl⟩
      have s1 := slice_l q n n pos hp
      rw [← hrp] at s1
      have hsegR := hseg2.sub (l := pos) (m := n) hp (Nat.le_refl _)
      rw [← hrp] at hsegR
      have Hrp := hide hrp
      have hZ := hide (zz_any q n n pos k final f w2 (by omega) (Nat.le_refl _) (by omega) hp hs hseg2 (unhide Hf) (unhide hT2))
      have HsegR := hide hsegR
      clear hrp hT2 hseg2 HT hsegR Hf
      revert hs
      generalize k = scanned at *
      intro hs
      go_wp2
      go_loop [11, 12] (fun a e => ∃ k : Nat, k ≤ n - pos ∧ a = .int .i64 (-1) ∧ e = .int .i64 k ∧ ∀ j, j < k → ¬ isE (f (pos + j))) (fun _ e => (n - pos) - (intOf e).toNat)
      case atStart => exact ⟨0, Nat.zero_le _, rfl, rfl, fun j h => absurd h (Nat.not_lt_zero j)⟩
      case round =>
        obtain ⟨k, hk, rfl, rfl, hno⟩ := hrel
        have Hno : Hid (∀ j, pos ≤ j → j < pos + k → ¬ isE (f j)) := fun j h1 h2 => by
          have := hno (j - pos) (by omega)
          rwa [show pos + (j - pos) = j from by omega] at this
        clear hno
        by_cases hlt : k < n - pos
        · obtain ⟨b, o, e, hcs⟩ := unhide HsegR (by omega)
          subst e
          have hck := hcs k hlt
          have hbl := World.block_lt_of_cell? _ _ hck
          simp only at hbl
          have Hcs := hide hcs
          clear hcs
          obtain ⟨x, hx⟩ : ∃ x, f (pos + k) = x := ⟨_, rfl⟩
          simp only [hx] at hck
          have Hx := hide hx
          clear hx
          by_cases h10 : x = 10
          · subst h10
            have HE : Hid (isE (f (pos + k))) := Or.inr (unhide Hx)
            have HW : Hid (¬ (f (pos + k) = 13 ∧ pos + k + 1 = n)) := fun h => by rw [unhide Hx] at h; omega
            have hwd : Hid (wid f n (pos + k) = 1) := by unfold wid; rw [if_neg (fun h => by rw [unhide Hx] at h; omega)]; exact rfl
            cases final with
            | true =>
              go_wp2_with (go_at_call 11; go_in)
              refine (unhide hZ).mono ?_
              rintro e w3 ⟨q', L, C, ok, np, ns, rfl, hLS, hB3⟩
              obtain ⟨rfl, rfl, hq', hL', rfl, hnp⟩ := hLS.hit (i := pos + k) (by omega) (by omega) (unhide HE) (unhide Hno) (unhide hsc) (fun h => unhide HW ⟨h.1, h.2.1⟩)
              obtain rfl : k = L := by omega
              obtain rfl : np = pos + k + 1 := by rw [hnp, unhide hwd]
              rw [← unhide Hrp] at hq'
              subst hq'
              have hb3 : b < w2.heap.size := hbl
              have g1 := (hB3.cell (p := ⟨b, o + k, none⟩) hb3).trans hck
              have hsg : Seg w3 (some ⟨b, o, none⟩) k (fun j => f (pos + j)) := Seg.below (fun _ => ⟨b, o, rfl, fun j hj => unhide Hcs j (by omega)⟩) hB3
              have hEq := hide (bytesEq_any (some ⟨b, o, none⟩) (some ⟨b, o, none⟩) k (n - pos) k (n - pos) _ _ w3 (by omega) (by omega) hsg hsg)
              have s3 := slice_h' (some ⟨b, o, none⟩) (n - pos) (n - pos) k (by omega) (Nat.le_refl _)
              clear hLS hZ hnp hL' hsg Hcs
              go_wp2_with fail
              refine (unhide hEq).mono ?_
              rintro e w4 ⟨r, rfl, hr, qq, rfl⟩
              obtain rfl : r = true := hr.2 ⟨rfl, fun _ _ => rfl⟩
              clear hr hEq
              go_wp2
              go_ret
              exact ⟨rfl, (hB2.trans (hB3.mono hB2.size)).trans ((below_drewN_any _ _).mono (Nat.le_trans hB2.size hB3.size))⟩
            | false =>
              go_wp2_with (go_at_call 11; go_in)
              refine (unhide hZ).mono ?_
              rintro e w3 ⟨q', L, C, ok, np, ns, rfl, hLS, hB3⟩
              obtain ⟨rfl, rfl, hq', hL', rfl, hnp⟩ := hLS.hit (i := pos + k) (by omega) (by omega) (unhide HE) (unhide Hno) (unhide hsc) (fun h => unhide HW ⟨h.1, h.2.1⟩)
              obtain rfl : k = L := by omega
              obtain rfl : np = pos + k + 1 := by rw [hnp, unhide hwd]
              rw [← unhide Hrp] at hq'
              subst hq'
              have hb3 : b < w2.heap.size := hbl
              have g1 := (hB3.cell (p := ⟨b, o + k, none⟩) hb3).trans hck
              have hsg : Seg w3 (some ⟨b, o, none⟩) k (fun j => f (pos + j)) := Seg.below (fun _ => ⟨b, o, rfl, fun j hj => unhide Hcs j (by omega)⟩) hB3
              have hEq := hide (bytesEq_any (some ⟨b, o, none⟩) (some ⟨b, o, none⟩) k (n - pos) k (n - pos) _ _ w3 (by omega) (by omega) hsg hsg)
              have s3 := slice_h' (some ⟨b, o, none⟩) (n - pos) (n - pos) k (by omega) (Nat.le_refl _)
              clear hLS hZ hnp hL' hsg Hcs
              go_wp2_with fail
              refine (unhide hEq).mono ?_
              rintro e w4 ⟨r, rfl, hr, qq, rfl⟩
              obtain rfl : r = true := hr.2 ⟨rfl, fun _ _ => rfl⟩
              clear hr hEq
              go_wp2
              go_ret
              exact ⟨rfl, (hB2.trans (hB3.mono hB2.size)).trans ((below_drewN_any _ _).mono (Nat.le_trans hB2.size hB3.size))⟩
          · have e10 : (x == 10) = false := by rw [beq_eq_false_iff_ne]; exact h10
            by_cases h13 : x = 13
            · subst h13
              clear h10 e10
              have HE : Hid (isE (f (pos + k))) := Or.inl (unhide Hx)
              by_cases hk1 : k + 1 < n - pos
              · have hck1 := unhide Hcs (k + 1) hk1
                obtain ⟨y, hy⟩ : ∃ y, f (pos + (k + 1)) = y := ⟨_, rfl⟩
                simp only [hy] at hck1
                have Hy : Hid (f (pos + k + 1) = y) := hy
                clear hy
                have hki : (k : Int) + 1 < ((n - pos : Nat) : Int) := by omega
                have hke : ((k : Int) == ((n - pos : Nat) : Int) - 1) = false := by rw [beq_eq_false_iff_ne]; omega
                have HW : Hid (¬ (f (pos + k) = 13 ∧ pos + k + 1 = n)) := fun h => by omega
                by_cases y10 : y = 10
                · subst y10
                  have hwd : Hid (wid f n (pos + k) = 2) := by unfold wid; rw [if_pos ⟨unhide Hx, by omega, unhide Hy⟩]; exact rfl
                  cases final with
                  | true =>
                    go_wp2_with (go_at_call 11; go_in)
                    refine (unhide hZ).mono ?_
                    rintro e w3 ⟨q', L, C, ok, np, ns, rfl, hLS, hB3⟩
                    obtain ⟨rfl, rfl, hq', hL', rfl, hnp⟩ := hLS.hit (i := pos + k) (by omega) (by omega) (unhide HE) (unhide Hno) (unhide hsc) (fun h => unhide HW ⟨h.1, h.2.1⟩)
                    obtain rfl : k = L := by omega
                    obtain rfl : np = pos + k + 2 := by rw [hnp, unhide hwd]
                    rw [← unhide Hrp] at hq'
                    subst hq'
                    have hb3 : b < w2.heap.size := hbl
                    have g1 := (hB3.cell (p := ⟨b, o + k, none⟩) hb3).trans hck
                    have g2 := (hB3.cell (p := ⟨b, o + (k + 1), none⟩) hb3).trans hck1
                    have hsg : Seg w3 (some ⟨b, o, none⟩) k (fun j => f (pos + j)) := Seg.below (fun _ => ⟨b, o, rfl, fun j hj => unhide Hcs j (by omega)⟩) hB3
                    have hEq := hide (bytesEq_any (some ⟨b, o, none⟩) (some ⟨b, o, none⟩) k (n - pos) k (n - pos) _ _ w3 (by omega) (by omega) hsg hsg)
                    have s3 := slice_h' (some ⟨b, o, none⟩) (n - pos) (n - pos) k (by omega) (Nat.le_refl _)
                    clear hLS hZ hnp hL' hsg Hcs
                    go_wp2_with fail
                    refine (unhide hEq).mono ?_
                    rintro e w4 ⟨r, rfl, hr, qq, rfl⟩
                    obtain rfl : r = true := hr.2 ⟨rfl, fun _ _ => rfl⟩
                    clear hr hEq
                    go_wp2
                    go_ret
                    exact ⟨rfl, (hB2.trans (hB3.mono hB2.size)).trans ((below_drewN_any _ _).mono (Nat.le_trans hB2.size hB3.size))⟩
                  | false =>
                    go_wp2_with (go_at_call 11; go_in)
                    refine (unhide hZ).mono ?_
                    rintro e w3 ⟨q', L, C, ok, np, ns, rfl, hLS, hB3⟩
                    obtain ⟨rfl, rfl, hq', hL', rfl, hnp⟩ := hLS.hit (i := pos + k) (by omega) (by omega) (unhide HE) (unhide Hno) (unhide hsc) (fun h => unhide HW ⟨h.1, h.2.1⟩)
                    obtain rfl : k = L := by omega
                    obtain rfl : np = pos + k + 2 := by rw [hnp, unhide hwd]
                    rw [← unhide Hrp] at hq'
                    subst hq'
                    have hb3 : b < w2.heap.size := hbl
                    have g1 := (hB3.cell (p := ⟨b, o + k, none⟩) hb3).trans hck
                    have g2 := (hB3.cell (p := ⟨b, o + (k + 1), none⟩) hb3).trans hck1
                    have hsg : Seg w3 (some ⟨b, o, none⟩) k (fun j => f (pos + j)) := Seg.below (fun _ => ⟨b, o, rfl, fun j hj => unhide Hcs j (by omega)⟩) hB3
                    have hEq := hide (bytesEq_any (some ⟨b, o, none⟩) (some ⟨b, o, none⟩) k (n - pos) k (n - pos) _ _ w3 (by omega) (by omega) hsg hsg)
                    have s3 := slice_h' (some ⟨b, o, none⟩) (n - pos) (n - pos) k (by omega) (Nat.le_refl _)
                    clear hLS hZ hnp hL' hsg Hcs
                    go_wp2_with fail
                    refine (unhide hEq).mono ?_
                    rintro e w4 ⟨r, rfl, hr, qq, rfl⟩
                    obtain rfl : r = true := hr.2 ⟨rfl, fun _ _ => rfl⟩
                    clear hr hEq
                    go_wp2
                    go_ret
                    exact ⟨rfl, (hB2.trans (hB3.mono hB2.size)).trans ((below_drewN_any _ _).mono (Nat.le_trans hB2.size hB3.size))⟩
                · have e10 : (y == 10) = false := by rw [beq_eq_false_iff_ne]; exact y10
                  have hwd : Hid (wid f n (pos + k) = 1) := by unfold wid; rw [if_neg (fun h => y10 (by rw [← unhide Hy]; exact h.2.2))]; exact rfl
                  clear y10
                  cases final with
                  | true =>
                    go_wp2_with (go_at_call 11; go_in)
                    refine (unhide hZ).mono ?_
                    rintro e w3 ⟨q', L, C, ok, np, ns, rfl, hLS, hB3⟩
                    obtain ⟨rfl, rfl, hq', hL', rfl, hnp⟩ := hLS.hit (i := pos + k) (by omega) (by omega) (unhide HE) (unhide Hno) (unhide hsc) (fun h => unhide HW ⟨h.1, h.2.1⟩)
                    obtain rfl : k = L := by omega
                    obtain rfl : np = pos + k + 1 := by rw [hnp, unhide hwd]
                    rw [← unhide Hrp] at hq'
                    subst hq'
                    have hb3 : b < w2.heap.size := hbl
                    have g1 := (hB3.cell (p := ⟨b, o + k, none⟩) hb3).trans hck
                    have g2 := (hB3.cell (p := ⟨b, o + (k + 1), none⟩) hb3).trans hck1
                    have hsg : Seg w3 (some ⟨b, o, none⟩) k (fun j => f (pos + j)) := Seg.below (fun _ => ⟨b, o, rfl, fun j hj => unhide Hcs j (by omega)⟩) hB3
                    have hEq := hide (bytesEq_any (some ⟨b, o, none⟩) (some ⟨b, o, none⟩) k (n - pos) k (n - pos) _ _ w3 (by omega) (by omega) hsg hsg)
                    have s3 := slice_h' (some ⟨b, o, none⟩) (n - pos) (n - pos) k (by omega) (Nat.le_refl _)
                    clear hLS hZ hnp hL' hsg Hcs
                    go_wp2_with fail
                    refine (unhide hEq).mono ?_
                    rintro e w4 ⟨r, rfl, hr, qq, rfl⟩
                    obtain rfl : r = true := hr.2 ⟨rfl, fun _ _ => rfl⟩
                    clear hr hEq
                    go_wp2
                    go_ret
                    exact ⟨rfl, (hB2.trans (hB3.mono hB2.size)).trans ((below_drewN_any _ _).mono (Nat.le_trans hB2.size hB3.size))⟩
                  | false =>
                    go_wp2_with (go_at_call 11; go_in)
                    refine (unhide hZ).mono ?_
                    rintro e w3 ⟨q', L, C, ok, np, ns, rfl, hLS, hB3⟩
                    obtain ⟨rfl, rfl, hq', hL', rfl, hnp⟩ := hLS.hit (i := pos + k) (by omega) (by omega) (unhide HE) (unhide Hno) (unhide hsc) (fun h => unhide HW ⟨h.1, h.2.1⟩)
                    obtain rfl : k = L := by omega
                    obtain rfl : np = pos + k + 1 := by rw [hnp, unhide hwd]
                    rw [← unhide Hrp] at hq'
                    subst hq'
                    have hb3 : b < w2.heap.size := hbl
                    have g1 := (hB3.cell (p := ⟨b, o + k, none⟩) hb3).trans hck
                    have g2 := (hB3.cell (p := ⟨b, o + (k + 1), none⟩) hb3).trans hck1
                    have hsg : Seg w3 (some ⟨b, o, none⟩) k (fun j => f (pos + j)) := Seg.below (fun _ => ⟨b, o, rfl, fun j hj => unhide Hcs j (by omega)⟩) hB3
                    have hEq := hide (bytesEq_any (some ⟨b, o, none⟩) (some ⟨b, o, none⟩) k (n - pos) k (n - pos) _ _ w3 (by omega) (by omega) hsg hsg)
                    have s3 := slice_h' (some ⟨b, o, none⟩) (n - pos) (n - pos) k (by omega) (Nat.le_refl _)
                    clear hLS hZ hnp hL' hsg Hcs
                    go_wp2_with fail
                    refine (unhide hEq).mono ?_
                    rintro e w4 ⟨r, rfl, hr, qq, rfl⟩
                    obtain rfl : r = true := hr.2 ⟨rfl, fun _ _ => rfl⟩
                    clear hr hEq
                    go_wp2
                    go_ret
                    exact ⟨rfl, (hB2.trans (hB3.mono hB2.size)).trans ((below_drewN_any _ _).mono (Nat.le_trans hB2.size hB3.size))⟩
              · have hki : ¬ (k : Int) + 1 < ((n - pos : Nat) : Int) := by omega
                have hwd : Hid (wid f n (pos + k) = 1) := by unfold wid; rw [if_neg (fun h => by omega)]; exact rfl
                cases final with
                | true =>
                  go_wp2_with (go_at_call 11; go_in)
                  refine (unhide hZ).mono ?_
                  rintro e w3 ⟨q', L, C, ok, np, ns, rfl, hLS, hB3⟩
                  obtain ⟨rfl, rfl, hq', hL', rfl, hnp⟩ := hLS.hit (i := pos + k) (by omega) (by omega) (unhide HE) (unhide Hno) (unhide hsc) (fun h => by cases h.2.2)
                  obtain rfl : k = L := by omega
                  obtain rfl : np = pos + k + 1 := by rw [hnp, unhide hwd]
                  rw [← unhide Hrp] at hq'
                  subst hq'
                  have hb3 : b < w2.heap.size := hbl
                  have g1 := (hB3.cell (p := ⟨b, o + k, none⟩) hb3).trans hck
                  have hsg : Seg w3 (some ⟨b, o, none⟩) k (fun j => f (pos + j)) := Seg.below (fun _ => ⟨b, o, rfl, fun j hj => unhide Hcs j (by omega)⟩) hB3
                  have hEq := hide (bytesEq_any (some ⟨b, o, none⟩) (some ⟨b, o, none⟩) k (n - pos) k (n - pos) _ _ w3 (by omega) (by omega) hsg hsg)
                  have s3 := slice_h' (some ⟨b, o, none⟩) (n - pos) (n - pos) k (by omega) (Nat.le_refl _)
                  clear hLS hZ hnp hL' hsg Hcs
                  go_wp2_with fail
                  refine (unhide hEq).mono ?_
                  rintro e w4 ⟨r, rfl, hr, qq, rfl⟩
                  obtain rfl : r = true := hr.2 ⟨rfl, fun _ _ => rfl⟩
                  clear hr hEq
                  go_wp2
                  go_ret
                  exact ⟨rfl, (hB2.trans (hB3.mono hB2.size)).trans ((below_drewN_any _ _).mono (Nat.le_trans hB2.size hB3.size))⟩
                | false =>
                  have hke : ((k : Int) == ((n - pos : Nat) : Int) - 1) = true := by rw [beq_iff_eq]; omega
                  have hks : scanned ≤ k := Nat.le_of_not_lt fun h => unhide hsc (pos + k) (by omega) (by omega) (unhide HE)
                  have u1 : ¬ (k : Int) < (scanned : Int) := by omega
                  have u2 : ¬ ((n - pos : Nat) : Int) < (k : Int) := by omega
                  go_wp2_with (go_at_call 11; go_in)
                  refine (unhide hZ).mono ?_
                  rintro e w3 ⟨q', L, C, ok, np, ns, rfl, hLS, hB3⟩
                  obtain ⟨rfl, rfl, rfl, rfl, rfl, hns⟩ := hLS.wait (i := pos + k) (by omega) (by omega) (unhide Hx) (unhide Hno) (unhide hsc) rfl
                  obtain rfl : k = ns := by omega
                  have Hseg3 : Hid (Seg w3 (some ⟨b, o, none⟩) k (fun j => f (np + j))) := Seg.below (fun _ => ⟨b, o, rfl, fun j hj => unhide Hcs j (by omega)⟩) hB3
                  clear hLS hZ hns Hcs
                  revert Hno
                  generalize np = pos at *
                  intro Hno
                  go_wp2
                  go_loop [18] (fun i => ∃ t : Nat, t ≤ k ∧ i = .int .i64 t) (fun i => k - (intOf i).toNat)
                  case atStart => exact ⟨0, Nat.zero_le _, rfl⟩
                  case round =>
                    obtain ⟨t, ht, rfl⟩ := hrel
                    by_cases htl : t < k
                    · obtain ⟨z, hz⟩ : ∃ z, f (pos + t) = z := ⟨_, rfl⟩
                      obtain ⟨b3, o3, e3, hc3⟩ := unhide Hseg3 (by omega)
                      cases e3
                      have hct := hc3 t (by omega)
                      simp only [hz] at hct
                      clear hc3
                      have nz := unhide Hno (pos + t) (by omega) (by omega)
                      rw [hz] at nz
                      have z13 : (z == 13) = false := by rw [beq_eq_false_iff_ne]; exact fun h => nz (Or.inl h)
                      have z10 : (z == 10) = false := by rw [beq_eq_false_iff_ne]; exact fun h => nz (Or.inr h)
                      clear nz hz
                      have htI : (t : Int) < ((k : Nat) : Int) := by omega
                      go_wp2
                      go_round
                      case rel => exact ⟨t + 1, by omega, by go_num⟩
                      case measure => simp [intOf]; omega
                    · have htI : ¬ (t : Int) < ((k : Nat) : Int) := by omega
                      go_wp2
                      go_ret
                      exact ⟨rfl, hB2.trans (hB3.mono hB2.size)⟩
            · have e13 : (x == 13) = false := by rw [beq_eq_false_iff_ne]; exact h13
              have hnE : Hid (¬ isE (f (pos + k))) := fun h => by
                rw [unhide Hx] at h
                exact h.elim h13 h10
              clear h10 h13
              go_wp2
              go_round
              case rel => exact ⟨k + 1, by omega, rfl, by go_num, fun j hj => by
                by_cases e : j = k
                · subst e; exact unhide hnE
                · exact unhide Hno (pos + j) (by omega) (by omega)⟩
              case measure => simp [intOf]; omega
        · obtain rfl : k = n - pos := by omega
          have u1 : ¬ ((n - pos : Nat) : Int) < (scanned : Int) := by omega
          go_wp2_with fail
          refine (unhide hZ).mono ?_
          rintro e w3 ⟨q', L, C, ok, np, ns, rfl, hLS, hB3⟩
          obtain ⟨rfl, rfl, rfl, rfl, hnp, hns⟩ := hLS.miss (fun j h1 h2 => unhide Hno j h1 (by omega))
          obtain rfl : pos = np := hnp.symm
          obtain rfl : n - pos = ns := hns.symm
          have Hseg3 : Hid (Seg w3 rp (n - pos) (fun j => f (pos + j))) := (unhide HsegR).below hB3
          clear hLS hZ
          go_wp2
          go_loop [18] (fun i => ∃ t : Nat, t ≤ n - pos ∧ i = .int .i64 t) (fun i => n - pos - (intOf i).toNat)
          case atStart => exact ⟨0, Nat.zero_le _, rfl⟩
          case round =>
            obtain ⟨t, ht, rfl⟩ := hrel
            by_cases htl : t < n - pos
            · obtain ⟨z, hz⟩ : ∃ z, f (pos + t) = z := ⟨_, rfl⟩
              obtain ⟨b3, o3, e3, hc3⟩ := unhide Hseg3 (by omega)
              subst e3
              have hct := hc3 t (by omega)
              simp only [hz] at hct
              clear hc3
              have nz := unhide Hno (pos + t) (by omega) (by omega)
              rw [hz] at nz
              have z13 : (z == 13) = false := by rw [beq_eq_false_iff_ne]; exact fun h => nz (Or.inl h)
              have z10 : (z == 10) = false := by rw [beq_eq_false_iff_ne]; exact fun h => nz (Or.inr h)
              clear nz hz
              have htI : (t : Int) < ((n - pos : Nat) : Int) := by omega
              go_wp2
              go_round
              case rel => exact ⟨t + 1, by omega, by go_num⟩
              case measure => simp [intOf]; omega
            · have htI : ¬ (t : Int) < ((n - pos : Nat) : Int) := by omega
              go_wp2
              go_ret
              exact ⟨rfl, hB2.trans (hB3.mono hB2.size)⟩

end Go.Proofs.Qxb6000583aDoor
