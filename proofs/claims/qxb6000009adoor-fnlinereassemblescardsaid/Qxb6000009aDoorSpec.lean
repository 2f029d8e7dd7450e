/-
  FnLineSpec, walked: it answers true whatever it is handed.
-/
import Derived.Test.Qxb6000009aDoorZZ
import Derived.Test.Qxb6000009aDoorSmall
import Derived.Test.Qxb6000009aDoorClone
namespace Go.Proofs.Qxb6000009aDoor
open Go.RowKit

def TruePost (w : World) (e : Ending) (w' : World) : Prop := e = .returned (.bool true) ∧ Below w.heap.size w w'

theorem slice_h' (p : Option Addr) (n c l : Nat) (hl : l ≤ n) (hc : n ≤ c) (w : World) : (Instr.slice 22 (.slice p n c) none (some (.int .i64 l)) none).run Tryd.prog w = .ok (.slice p l c) w := by
  rw [run_slice_h w 22 p n c Tryd.underlying22 .i64 l (by omega) (by omega)]
  have hz : (sizeOf (Tryd.prog.elem 22)).run Tryd.prog w = .ok 1 w := by kernel_rfl
  rw [hz]
  simp only [Result.andThen, sliced]
  cases p with
  | none => simp
  | some a => split <;> simp [Addr.add]

theorem slice_lh (p : Option Addr) (n c l h : Nat) (hl : l ≤ h) (hh : h ≤ n) (hc : n ≤ c) (w : World) : (Instr.slice 22 (.slice p n c) (some (.int .i64 l)) (some (.int .i64 h)) none).run Tryd.prog w = .ok (.slice (subp p l c) (h - l) (c - l)) w := by
  rw [run_slice_lh w 22 p n c Tryd.underlying22 .i64 .i64 l h (by omega) (by omega) (by omega)]
  have hz : (sizeOf (Tryd.prog.elem 22)).run Tryd.prog w = .ok 1 w := by kernel_rfl
  rw [hz]
  simp [Result.andThen, sliced, subp]

/-- A copy at every slice, nil too. -/
def CopyPost (f : Nat → Int) (n : Nat) (w : World) (e : Ending) (w' : World) : Prop :=
  ∃ q, e = .returned (.slice q n n) ∧ Seg w' q n f ∧ Below w.heap.size w w'
theorem cloneBytes_any (p : Option Addr) (n c : Nat) (f : Nat → Int) (w : World) (hn : n ≤ 1048576) (hs : Seg w p n f) (h0 : p = none → n = 0 ∧ c = 0) :
    Calls Tryd.prog 8 #[.slice p n c] w (CopyPost f n w) := by
  cases p with
  | none =>
    obtain ⟨rfl, rfl⟩ := h0 rfl
    exact (cloneBytes_nil w).mono fun e w' ⟨he, hw⟩ => ⟨none, he, Seg.zero _ _ _, by rw [hw]; exact Below.refl _ _⟩
  | some a =>
    refine (cloneBytes_some a n c f w hn hs).mono fun e w' ⟨he, hw⟩ => ⟨_, he, fun h => ⟨w.heap.size, 0, rfl, fun j hj => ?_⟩, ?_⟩
    · rw [hw, World.cell?_alloc_at _ _ _ _ rfl, Nat.zero_add, clo_at f n n j hj, if_pos hj]
    · rw [hw]; exact (Below.refl _ _).alloc (Nat.le_refl _) _

theorem LineSpec.miss {f : Nat → Int} {n pos scanned : Nat} {final : Bool} {p : Option Addr} {c : Nat} {q : Option Addr} {L C : Nat} {ok : Bool} {np ns : Nat} (h : LineSpec f n pos scanned final p c q L C ok np ns)
    (hno : ∀ j, pos ≤ j → j < n → ¬ isE (f j)) : ok = false ∧ q = none ∧ L = 0 ∧ C = 0 ∧ np = pos ∧ ns = n - pos := by
  rcases h with ⟨h1, h2, h3, h4, h5, h6, _⟩ | ⟨_, _, _, _, _, _, i, hi, hi2, hi3, _⟩ | ⟨_, _, i, hi, hi2, hi3, _⟩
  · exact ⟨h1, h2, h3, h4, h5, h6⟩
  · exact absurd (Or.inl hi3) (hno i (by omega) (by omega))
  · exact absurd hi3 (hno i (by omega) hi2)
theorem first_unique {f : Nat → Int} {a i j : Nat} (hi : a ≤ i) (hj : a ≤ j) (ei : isE (f i)) (ej : isE (f j)) (ni : ∀ t, a ≤ t → t < i → ¬ isE (f t)) (nj : ∀ t, a ≤ t → t < j → ¬ isE (f t)) : i = j := by
  rcases Nat.lt_trichotomy i j with h | h | h
  · exact absurd ei (nj i hi h)
  · exact h
  · exact absurd ej (ni j hj h)
theorem LineSpec.hit {f : Nat → Int} {n pos scanned : Nat} {final : Bool} {p : Option Addr} {c : Nat} {q : Option Addr} {L C : Nat} {ok : Bool} {np ns i : Nat} (h : LineSpec f n pos scanned final p c q L C ok np ns)
    (hi : pos ≤ i) (hin : i < n) (hE : isE (f i)) (hno : ∀ j, pos ≤ j → j < i → ¬ isE (f j)) (hsc : ∀ j, pos ≤ j → j < pos + scanned → ¬ isE (f j)) (hw : ¬ (f i = 13 ∧ i + 1 = n ∧ final = false)) :
    ok = true ∧ ns = 0 ∧ q = subp p pos c ∧ L = i - pos ∧ C = c - pos ∧ np = i + wid f n i := by
  have hi' : pos + scanned ≤ i := Nat.le_of_not_lt fun h => hsc i hi h hE
  rcases h with ⟨_, _, _, _, _, _, hn⟩ | ⟨_, _, _, _, _, hf, i', h1, h2, h3, h4, _⟩ | ⟨h1, h2, i', h3, h4, h5, h6, h7, h8, h9, h10, h11⟩
  · exact absurd hE (hn i hi' hin)
  · have : i = i' := first_unique hi' h1 hE (Or.inl h3) (fun t ht => hno t (by omega)) h4
    subst this; exact absurd ⟨h3, h2, hf⟩ hw
  · have : i = i' := first_unique hi' h3 hE h5 (fun t ht => hno t (by omega)) h6
    subst this; exact ⟨h1, h2, h8, h9, h10, h11⟩
theorem LineSpec.wait {f : Nat → Int} {n pos scanned : Nat} {final : Bool} {p : Option Addr} {c : Nat} {q : Option Addr} {L C : Nat} {ok : Bool} {np ns i : Nat} (h : LineSpec f n pos scanned final p c q L C ok np ns)
    (hi : pos ≤ i) (hin : i + 1 = n) (hE : f i = 13) (hno : ∀ j, pos ≤ j → j < i → ¬ isE (f j)) (hsc : ∀ j, pos ≤ j → j < pos + scanned → ¬ isE (f j)) (hw : final = false) :
    ok = false ∧ q = none ∧ L = 0 ∧ C = 0 ∧ np = pos ∧ ns = i - pos := by
  have hi' : pos + scanned ≤ i := Nat.le_of_not_lt fun h => hsc i hi h (Or.inl hE)
  rcases h with ⟨_, _, _, _, _, _, hn⟩ | ⟨g1, g2, g3, g4, g5, hf, i', h1, h2, h3, h4, h5⟩ | ⟨h1, h2, i', h3, h4, h5, h6, h7, h8, h9, h10, h11⟩
  · exact absurd (Or.inl hE) (hn i hi' (by omega))
  · have : i = i' := by omega
    subst this; exact ⟨g1, g2, g3, g4, g5, h5⟩
  · have : i = i' := first_unique hi' h3 (Or.inl hE) h5 (fun t ht => hno t (by omega)) h6
    subst this; exact absurd ⟨hE, hin, hw⟩ h7

set_option maxRecDepth 100000 in
set_option maxHeartbeats 800000 in
/-- The inputs that the law passes by. -/
theorem spec_out (p : Option Addr) (n c : Nat) (pos scanned : Int) (final : Bool) (w : World) (hn : n ≤ 9223372036854775807) (h : 262144 < n ∨ (n ≤ 262144 ∧ (pos < 0 ∨ n < pos)) ∨ (n ≤ 262144 ∧ 0 ≤ pos ∧ pos ≤ n ∧ (scanned < 0 ∨ n - pos < scanned))) :
    Calls Tryd.prog 3 #[.slice p n c, .int .i64 pos, .int .i64 scanned, .bool final] w (TruePost w) := by
  rcases h with h | ⟨h, h1⟩ | ⟨h, h1, h2, h3⟩
  · by_cases hb : n ≤ 1048576
    all_goals
      go_enter Tryd.func3, Tryd.ntmps3
      go_wp2
      go_ret
      exact ⟨rfl, Below.refl _ _⟩
  · rcases h1 with h1 | h1
    · go_enter Tryd.func3, Tryd.ntmps3
      go_wp2
      go_ret
      exact ⟨rfl, Below.refl _ _⟩
    · have h0 : ¬ pos < 0 := by omega
      go_enter Tryd.func3, Tryd.ntmps3
      go_wp2
      go_ret
      exact ⟨rfl, Below.refl _ _⟩
  · rcases h3 with h3 | h3
    · go_enter Tryd.func3, Tryd.ntmps3
      go_wp2
      go_ret
      exact ⟨rfl, Below.refl _ _⟩
    · have h0 : ¬ scanned < 0 := by omega
      go_enter Tryd.func3, Tryd.ntmps3
      go_wp2
      go_ret
      exact ⟨rfl, Below.refl _ _⟩

set_option maxRecDepth 100000 in
set_option maxHeartbeats 1600000 in
/-- The inputs that the law speaks of. -/
theorem spec_in (p : Option Addr) (n c pos scanned : Nat) (final : Bool) (f : Nat → Int) (w : World) (hn : n ≤ 262144) (hc : n ≤ c) (hp : pos ≤ n) (hs : scanned ≤ n - pos)
    (hseg : Seg w p n f) (hf : ∀ j, j < n → 0 ≤ f j ∧ f j ≤ 255) (hT : Tabs w) (hnil : p = none → n = 0 ∧ c = 0) :
    Calls Tryd.prog 3 #[.slice p n c, .int .i64 pos, .int .i64 scanned, .bool final] w (TruePost w) := by
  have s0 := slice_lh p n c pos (pos + scanned) (by omega) (by omega) hc
  rw [show pos + scanned - pos = scanned from by omega] at s0
  simp only [Int.natCast_add] at s0
  have hE := hide (noLineEnd_any (subp p pos c) scanned (c - pos) (fun j => f (pos + j)) w (by omega) ((hseg.sub hp hc).take hs))
  have hC := hide (cloneBytes_any p n c f w (by omega) hseg hnil)
  have Hf := hide hf
  have HT := hide hT
  clear hf hT hseg hnil
  have t1 : ¬ (pos : Int) < 0 := by omega
  have t2 : ¬ (n : Int) < (pos : Int) := by omega
  have t3 : ¬ (scanned : Int) < 0 := by omega
  have t4 : ¬ (n : Int) - (pos : Int) < (scanned : Int) := by omega
  go_enter Tryd.func3, Tryd.ntmps3
  go_wp2_with (go_at_call 6; go_in)
  refine (unhide hE).mono ?_
  rintro e w' ⟨r, rfl, hr, hw⟩
  obtain rfl : w = w' := hw.symm
  cases r with
  | false =>
    go_wp2
    go_ret
    exact ⟨rfl, Below.refl _ _⟩
  | true =>
  have hsc : Hid (∀ j, pos ≤ j → j < pos + scanned → ¬ isE (f j)) := fun j h1 h2 => by
    have : ¬ isE (f (pos + (j - pos))) := hr.1 rfl (j - pos) (by omega)
    rwa [show pos + (j - pos) = j from by omega] at this
  clear hr hE hw
  go_wp2_with fail
  refine (unhide hC).mono ?_
  rintro e w2 ⟨q, rfl, hseg2, hB2⟩
  clear hC s0 t3 t4
  have hT2 := hide ((unhide HT).below hB2)
  obtain ⟨rp, hrp⟩ : ∃ rp, rp = subp q pos n := ⟨_, rfl⟩
  have s1 := slice_l q n n pos hp
  rw [← hrp] at s1
  have hsegR := hseg2.sub (l := pos) (m := n) hp (Nat.le_refl _)
  rw [← hrp] at hsegR
  have Hrp := hide hrp
  have hZ := hide (zz_any q n n pos scanned final f w2 (by omega) (Nat.le_refl _) (by omega) hp hs hseg2 (unhide Hf) (unhide hT2))
  have Hseg2 := hide hseg2
  clear hrp hT2 hseg2 HT
  have q22 : ∀ (w : World) (a : Option Addr) (n c n' c' : Nat), (binOp .eql 22 (.slice a n c) (.slice none n' c')).run Tryd.prog w = .ok (.bool a.isNone) w := fun w a n c n' c' => Lib.run_eql_slice_nil w _ _ a n c n' c' Tryd.underlying22
  go_wp2
  go_loop [10, 11, 12, 13, 14] (fun a b c d e => ∃ k : Nat, k ≤ n - pos ∧ a = .bool false ∧ b = .int .i64 0 ∧ c = .int .i64 pos ∧ d = .int .i64 ((n - pos : Nat) : Int) ∧ e = .int .i64 k ∧ ∀ j, j < k → ¬ isE (f (pos + j))) (fun _ _ _ _ e => (n - pos) - (intOf e).toNat)
  case atStart => exact ⟨0, Nat.zero_le _, rfl, rfl, rfl, rfl, rfl, fun j h => absurd h (Nat.not_lt_zero j)⟩
  case round =>
    obtain ⟨k, hk, rfl, rfl, rfl, rfl, rfl, hno⟩ := hrel
    have Hno : Hid (∀ j, pos ≤ j → j < pos + k → ¬ isE (f j)) := fun j h1 h2 => by
      have := hno (j - pos) (by omega)
      rwa [show pos + (j - pos) = j from by omega] at this
    clear hno
    by_cases hlt : k < n - pos
    · obtain ⟨b, o, e, hcs⟩ := hsegR (by omega)
      subst e
      clear hsegR
      have hck := hcs k hlt
      have Hcs := hide hcs
      clear hcs
      obtain ⟨x, hx⟩ : ∃ x, f (pos + k) = x := ⟨_, rfl⟩
      simp only [hx] at hck
      have Hx := hide hx
      clear hx
      by_cases h10 : x = 10
      · subst h10
        have HE : Hid (isE (f (pos + k))) := Or.inr (unhide Hx)
        have hwd : Hid (wid f n (pos + k) = 1) := by unfold wid; rw [if_neg (fun h => by rw [unhide Hx] at h; omega)]; exact rfl
        go_wp2_with fail
        refine (unhide hZ).mono ?_
        rintro e w3 ⟨q', L, C, ok, np, ns, rfl, hLS, hB3⟩
        obtain ⟨rfl, rfl, hq', hL', rfl, hnp⟩ := hLS.hit (i := pos + k) (by omega) (by omega) (unhide HE) (unhide Hno) (unhide hsc) (fun h => by rw [unhide Hx] at h; omega)
        obtain rfl : k = L := by omega
        obtain rfl : np = pos + k + 1 := by rw [hnp, unhide hwd]
        rw [← unhide Hrp] at hq'
        subst hq'
        have hsg : Seg w3 (some ⟨b, o, none⟩) k (fun j => f (pos + j)) := Seg.below (fun _ => ⟨b, o, rfl, fun j hj => unhide Hcs j (by omega)⟩) hB3
        have hEq := hide (bytesEqual_any (some ⟨b, o, none⟩) (some ⟨b, o, none⟩) k (n - pos) k (n - pos) _ _ w3 (by omega) (by omega) hsg hsg)
        have s3 := slice_h' (some ⟨b, o, none⟩) (n - pos) (n - pos) k (by omega) (Nat.le_refl _)
        clear hLS hZ hnp hL' hsg Hcs
        go_wp2_with fail
        refine (unhide hEq).mono ?_
        rintro e w4 ⟨r, rfl, hr, qq, rfl⟩
        obtain rfl : r = true := hr.2 ⟨rfl, fun _ _ => rfl⟩
        clear hr hEq
        go_wp2
        go_ret
        exact ⟨rfl, (hB2.trans (hB3.mono hB2.size)).trans ((below_drewN_any _ _).mono (Nat.le_trans hB2.size hB3.size))⟩
      · have e10 : (x == 10) = false := by rw [beq_eq_false_iff_ne]; exact h10
        by_cases h13 : x = 13
        · subst h13
          clear h10 e10
          have HE : Hid (isE (f (pos + k))) := Or.inl (unhide Hx)
          by_cases hk1 : k + 1 < n - pos
          · have hck1 := unhide Hcs (k + 1) hk1
            obtain ⟨y, hy⟩ : ∃ y, f (pos + (k + 1)) = y := ⟨_, rfl⟩
            simp only [hy] at hck1
            have Hy : Hid (f (pos + k + 1) = y) := hy
            clear hy
            have hki : (k : Int) + 1 < ((n - pos : Nat) : Int) := by omega
            by_cases y10 : y = 10
            · subst y10
              have hwd : Hid (wid f n (pos + k) = 2) := by unfold wid; rw [if_pos ⟨unhide Hx, by omega, unhide Hy⟩]; exact rfl
              go_wp2_with fail
              refine (unhide hZ).mono ?_
              rintro e w3 ⟨q', L, C, ok, np, ns, rfl, hLS, hB3⟩
              obtain ⟨rfl, rfl, hq', hL', rfl, hnp⟩ := hLS.hit (i := pos + k) (by omega) (by omega) (unhide HE) (unhide Hno) (unhide hsc) (fun h => by omega)
              obtain rfl : k = L := by omega
              obtain rfl : np = pos + k + 2 := by rw [hnp, unhide hwd]
              rw [← unhide Hrp] at hq'
              subst hq'
              have hsg : Seg w3 (some ⟨b, o, none⟩) k (fun j => f (pos + j)) := Seg.below (fun _ => ⟨b, o, rfl, fun j hj => unhide Hcs j (by omega)⟩) hB3
              have hEq := hide (bytesEqual_any (some ⟨b, o, none⟩) (some ⟨b, o, none⟩) k (n - pos) k (n - pos) _ _ w3 (by omega) (by omega) hsg hsg)
              have s3 := slice_h' (some ⟨b, o, none⟩) (n - pos) (n - pos) k (by omega) (Nat.le_refl _)
              clear hLS hZ hnp hL' hsg Hcs
              go_wp2_with fail
              refine (unhide hEq).mono ?_
              rintro e w4 ⟨r, rfl, hr, qq, rfl⟩
              obtain rfl : r = true := hr.2 ⟨rfl, fun _ _ => rfl⟩
              clear hr hEq
              go_wp2
              go_ret
              exact ⟨rfl, (hB2.trans (hB3.mono hB2.size)).trans ((below_drewN_any _ _).mono (Nat.le_trans hB2.size hB3.size))⟩
            · have e10 : (y == 10) = false := by rw [beq_eq_false_iff_ne]; exact y10
              have hwd : Hid (wid f n (pos + k) = 1) := by unfold wid; rw [if_neg (fun h => y10 (by rw [← unhide Hy]; exact h.2.2))]; exact rfl
              clear y10
              go_wp2_with fail
              refine (unhide hZ).mono ?_
              rintro e w3 ⟨q', L, C, ok, np, ns, rfl, hLS, hB3⟩
              obtain ⟨rfl, rfl, hq', hL', rfl, hnp⟩ := hLS.hit (i := pos + k) (by omega) (by omega) (unhide HE) (unhide Hno) (unhide hsc) (fun h => by omega)
              obtain rfl : k = L := by omega
              obtain rfl : np = pos + k + 1 := by rw [hnp, unhide hwd]
              rw [← unhide Hrp] at hq'
              subst hq'
              have hsg : Seg w3 (some ⟨b, o, none⟩) k (fun j => f (pos + j)) := Seg.below (fun _ => ⟨b, o, rfl, fun j hj => unhide Hcs j (by omega)⟩) hB3
              have hEq := hide (bytesEqual_any (some ⟨b, o, none⟩) (some ⟨b, o, none⟩) k (n - pos) k (n - pos) _ _ w3 (by omega) (by omega) hsg hsg)
              have s3 := slice_h' (some ⟨b, o, none⟩) (n - pos) (n - pos) k (by omega) (Nat.le_refl _)
              clear hLS hZ hnp hL' hsg Hcs
              go_wp2_with fail
              refine (unhide hEq).mono ?_
              rintro e w4 ⟨r, rfl, hr, qq, rfl⟩
              obtain rfl : r = true := hr.2 ⟨rfl, fun _ _ => rfl⟩
              clear hr hEq
              go_wp2
              go_ret
              exact ⟨rfl, (hB2.trans (hB3.mono hB2.size)).trans ((below_drewN_any _ _).mono (Nat.le_trans hB2.size hB3.size))⟩
          · have hki : ¬ (k : Int) + 1 < ((n - pos : Nat) : Int) := by omega
            have hwd : Hid (wid f n (pos + k) = 1) := by unfold wid; rw [if_neg (fun h => by omega)]; exact rfl
            cases final with
            | true =>
              go_wp2_with fail
              refine (unhide hZ).mono ?_
              rintro e w3 ⟨q', L, C, ok, np, ns, rfl, hLS, hB3⟩
              obtain ⟨rfl, rfl, hq', hL', rfl, hnp⟩ := hLS.hit (i := pos + k) (by omega) (by omega) (unhide HE) (unhide Hno) (unhide hsc) (fun h => by cases h.2.2)
              obtain rfl : k = L := by omega
              obtain rfl : np = pos + k + 1 := by rw [hnp, unhide hwd]
              rw [← unhide Hrp] at hq'
              subst hq'
              have hsg : Seg w3 (some ⟨b, o, none⟩) k (fun j => f (pos + j)) := Seg.below (fun _ => ⟨b, o, rfl, fun j hj => unhide Hcs j (by omega)⟩) hB3
              have hEq := hide (bytesEqual_any (some ⟨b, o, none⟩) (some ⟨b, o, none⟩) k (n - pos) k (n - pos) _ _ w3 (by omega) (by omega) hsg hsg)
              have s3 := slice_h' (some ⟨b, o, none⟩) (n - pos) (n - pos) k (by omega) (Nat.le_refl _)
              clear hLS hZ hnp hL' hsg Hcs
              go_wp2_with fail
              refine (unhide hEq).mono ?_
              rintro e w4 ⟨r, rfl, hr, qq, rfl⟩
              obtain rfl : r = true := hr.2 ⟨rfl, fun _ _ => rfl⟩
              clear hr hEq
              go_wp2
              go_ret
              exact ⟨rfl, (hB2.trans (hB3.mono hB2.size)).trans ((below_drewN_any _ _).mono (Nat.le_trans hB2.size hB3.size))⟩
            | false =>
              go_wp2_with fail
              refine (unhide hZ).mono ?_
              rintro e w3 ⟨q', L, C, ok, np, ns, rfl, hLS, hB3⟩
              obtain ⟨rfl, rfl, rfl, rfl, rfl, hns⟩ := hLS.wait (i := pos + k) (by omega) (by omega) (unhide Hx) (unhide Hno) (unhide hsc) rfl
              obtain rfl : k = ns := by omega
              clear hLS hZ hns
              go_wp2
              go_ret
              exact ⟨rfl, hB2.trans (hB3.mono hB2.size)⟩
        · have e13 : (x == 13) = false := by rw [beq_eq_false_iff_ne]; exact h13
          have hnE : Hid (¬ isE (f (pos + k))) := fun h => by
            rw [unhide Hx] at h
            exact h.elim h13 h10
          clear h10 h13
          go_wp2
          go_round
          case rel => exact ⟨k + 1, by omega, rfl, rfl, rfl, rfl, by go_num, fun j hj => by
            by_cases e : j = k
            · subst e; exact unhide hnE
            · exact unhide Hno (pos + j) (by omega) (by omega)⟩
          case measure => simp [intOf]; omega
    · go_wp2_with (go_at_call 9; refine (unhide hZ).mono ?_; rintro e w3 ⟨q', L, C, ok, np, ns, rfl, hLS, hB3⟩; obtain ⟨rfl, rfl, rfl, rfl, rfl, rfl⟩ := hLS.miss (fun j h1 h2 => unhide Hno j h1 (by omega)); clear hLS hZ)
      go_ret
      exact ⟨rfl, hB2.trans (hB3.mono hB2.size)⟩

end Go.Proofs.Qxb6000009aDoor
