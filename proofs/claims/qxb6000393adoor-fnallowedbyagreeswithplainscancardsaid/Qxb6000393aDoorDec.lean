/-
  zzDecided, walked.
-/
import Derived.Test.Qxb6000393aDoorCopyZ
namespace Go.Proofs.Qxb6000393aDoor
open Go.RowKit

def hit (x nm : List UInt8) (z : ZS) : Bool := anyL z.2.1 x && anyL z.2.2.1 nm
def dn (x nm : List UInt8) (Z : List ZS) : Bool := Z.any fun z => hit x nm z && z.1 == 2
def al (x nm : List UInt8) (Z : List ZS) : Bool := Z.any fun z => hit x nm z && z.1 == 1
/-- The plain scan. -/
def dec (x nm : List UInt8) (Z : List ZS) : Bool := al x nm Z && !dn x nm Z

theorem dn_take (x nm : List UInt8) (Z : List ZS) (k : Nat) (h : k < Z.length) (z : ZS) (hz : Z[k]?.getD z0 = z) : dn x nm (Z.take (k + 1)) = (dn x nm (Z.take k) || (hit x nm z && z.1 == 2)) := by
  rw [List.getElem?_eq_getElem h] at hz
  have hz' : Z[k] = z := hz
  rw [List.take_succ_eq_append_getElem h, hz']
  unfold dn
  rw [List.any_append]; simp
theorem al_take (x nm : List UInt8) (Z : List ZS) (k : Nat) (h : k < Z.length) (z : ZS) (hz : Z[k]?.getD z0 = z) : al x nm (Z.take (k + 1)) = (al x nm (Z.take k) || (hit x nm z && z.1 == 1)) := by
  rw [List.getElem?_eq_getElem h] at hz
  have hz' : Z[k] = z := hz
  rw [List.take_succ_eq_append_getElem h, hz']
  unfold al
  rw [List.any_append]; simp
theorem dn_true (x nm : List UInt8) (Z : List ZS) (k : Nat) (h : k < Z.length) (z : ZS) (hz : Z[k]?.getD z0 = z) (hh : hit x nm z = true) (h2 : z.1 = 2) : dn x nm Z = true := by
  rw [List.getElem?_eq_getElem h] at hz
  have hz' : Z[k] = z := hz
  unfold dn
  rw [List.any_eq_true]
  exact ⟨z, by rw [← hz']; exact List.getElem_mem h, by simp [hh, h2]⟩

theorem any25 (v : Value) (A : List (List UInt8)) (nm : List UInt8) (w : World) (hA : Small A) (hnm : nm.length < 4294967281) (hM : HasMax w) (hs : Strs w v A) : Calls Tryd.prog 25 #[v, S nm] w (MatchPost (anyL A nm) w) := by
  obtain ⟨p, c, rfl, hp⟩ := hs
  have := zzany25 p A.length c (fun j => A[j]?.getD []) nm w hA.1 hnm (fun j hj => hA.at j hj) hM hp
  rw [anyM_list] at this
  exact this

set_option maxRecDepth 100000 in
set_option maxHeartbeats 4000000 in
/-- zzDecided. -/
theorem dec21 (v0 : Value) (Z : List ZS) (x nm : List UInt8) (w : World) (hZ : SmallZ Z) (hx : x.length < 4294967281) (hnm : nm.length < 4294967281) (hM : HasMax w) (hs : Zs w v0 Z) : Calls Tryd.prog 21 #[v0, S x, S nm] w (MatchPost (dec x nm Z) w) := by
  obtain ⟨p0, c0, rfl, hs⟩ := hs
  have Hs := hide hs
  have HZ := hide hZ
  have hZn := hZ.1
  have HM := hide hM
  clear hs hZ hM
  generalize hN : Z.length = n at *
  have HN := hide hN
  clear hN
  go_enter Tryd.func21, Tryd.ntmps21
  go_wp2
  go_loopw [7, 8] (fun a i wr => ∃ k : Nat, k ≤ n ∧ i = .int .i64 k ∧ a = .bool (al x nm (Z.take k)) ∧ dn x nm (Z.take k) = false ∧ Below w.heap.size w wr) (fun _ i _ => n - (intOf i).toNat)
  case atStart => exact ⟨0, Nat.zero_le _, rfl, rfl, rfl, Below.refl _ _⟩
  case round =>
    obtain ⟨k, hk, rfl, rfl, hdn, hBw⟩ := hrel
    have hle := hBw.size
    by_cases hlt : k < n
    · obtain ⟨b, o, rfl, hc⟩ := unhide Hs (by omega)
      have hlk : k < Z.length := by rw [unhide HN]; exact hlt
      have hzk := (hc k hlt)
      have hsm := (unhide HZ).at k hlk
      have hd := dn_take x nm Z k hlk _ rfl
      have ha := al_take x nm Z k hlk _ rfl
      have ht := dn_true x nm Z k hlk _ rfl
      generalize Z[k]?.getD z0 = z at hzk hsm hd ha ht
      obtain ⟨ez, Az, Rz, pz⟩ := z
      obtain ⟨va, vr, k0, k1, k2, k3, k4, k5⟩ := hzk
      rw [hdn, Bool.false_or] at hd
      dsimp only at hsm k0 k1 k2 k4 k5 hd ha ht
      unfold hit at hd ha ht
      dsimp only at hd ha ht
      have HC1 : Hid (∀ w', Below w.heap.size w w' → Calls Tryd.prog 25 #[va, S x] w' (MatchPost (anyL Az x) w')) := hide fun w' hB => any25 va Az x w' hsm.1 hx ((unhide HM).below hB) (k4.below hB)
      have HC2 : Hid (∀ w', Below w.heap.size w w' → Calls Tryd.prog 25 #[vr, S nm] w' (MatchPost (anyL Rz nm) w')) := hide fun w' hB => any25 vr Rz nm w' hsm.2 hnm ((unhide HM).below hB) (k5.below hB)
      have HK : Hid (∀ w', Below w.heap.size w w' → w'.cell? ⟨b, o + k * 4, none⟩ = some (.int .i64 ez) ∧ w'.cell? ⟨b, o + k * 4 + 2, none⟩ = some vr) := hide fun w' h =>
        ⟨(h.cell (p := ⟨b, o + k * 4, none⟩) (World.block_lt_of_cell? _ _ k0)).trans k0, (h.cell (p := ⟨b, o + k * 4 + 2, none⟩) (World.block_lt_of_cell? _ _ k2)).trans k2⟩
      have hk1 := (hBw.cell (p := ⟨b, o + k * 4 + 1, none⟩) (World.block_lt_of_cell? _ _ k1)).trans k1
      have HBw := hide hBw
      clear hc k4 k5 hsm k0 k1 k2 k3 Hs HZ HM hBw hlk hdn
      generalize al x nm (Z.take k) = a0 at *
      cases hA : anyL Az x with
      | false =>
        rw [hA] at HC1 hd ha
        simp only [Bool.false_and, Bool.or_false] at hd ha
        have Hd := hide hd
        have Ha := hide ha
        clear hd ha ht hA HC2 HK
        go_wp2_with (go_at_call 25; refine (unhide HC1 _ (unhide HBw)).mono ?_; rintro e w1 ⟨rfl, hB1⟩; have HW1 : Hid (Below w.heap.size w w1) := hide ((unhide HBw).trans (hB1.mono hle)); clear hB1)
        exact ⟨⟨k + 1, by omega, by go_num, by rw [unhide Ha], unhide Hd, unhide HW1⟩, by simp [intOf]; omega⟩
      | true =>
        rw [hA] at HC1 hd ha ht
        cases hR : anyL Rz nm with
        | false =>
          rw [hR] at HC2 hd ha
          simp only [Bool.and_false, Bool.false_and, Bool.or_false] at hd ha
          have Hd := hide hd
          have Ha := hide ha
          clear hd ha ht hA hR
          go_wp2_with (first
            | (go_at_call_of 25 va; refine (unhide HC1 _ (unhide HBw)).mono ?_; rintro e w1 ⟨rfl, hB1⟩; have HW1 : Hid (Below w.heap.size w w1) := hide ((unhide HBw).trans (hB1.mono hle)); obtain ⟨_, e2⟩ := unhide HK w1 (unhide HW1); clear hB1)
            | (go_at_call_of 25 vr; refine (unhide HC2 _ (unhide HW1)).mono ?_; rintro e w2 ⟨rfl, hB2⟩; have HW2 : Hid (Below w.heap.size w w2) := hide ((unhide HW1).trans (hB2.mono (unhide HW1).size)); clear hB2))
          exact ⟨⟨k + 1, by omega, by go_num, by rw [unhide Ha], unhide Hd, unhide HW2⟩, by simp [intOf]; omega⟩
        | true =>
          rw [hR] at HC2 hd ha ht
          simp only [Bool.and_self, Bool.true_and] at hd ha ht
          clear hA hR
          by_cases h2 : ez = 2
          · subst h2
            have HT : Hid (dec x nm Z = false) := hide (by unfold dec; rw [ht trivial rfl]; simp)
            clear ht hd ha
            go_wp2_with (first
              | (go_at_call_of 25 va; refine (unhide HC1 _ (unhide HBw)).mono ?_; rintro e w1 ⟨rfl, hB1⟩; have HW1 : Hid (Below w.heap.size w w1) := hide ((unhide HBw).trans (hB1.mono hle)); obtain ⟨_, e2⟩ := unhide HK w1 (unhide HW1); clear hB1)
              | (go_at_call_of 25 vr; refine (unhide HC2 _ (unhide HW1)).mono ?_; rintro e w2 ⟨rfl, hB2⟩; have HW2 : Hid (Below w.heap.size w w2) := hide ((unhide HW1).trans (hB2.mono (unhide HW1).size)); obtain ⟨e3, _⟩ := unhide HK w2 (unhide HW2); clear hB2))
            go_ret
            exact ⟨by rw [unhide HT]; rfl, unhide HW2⟩
          · have hd' : dn x nm (Z.take (k + 1)) = false := by rw [hd]; simp [h2]
            by_cases h1 : ez = 1
            · subst h1
              have ha' : al x nm (Z.take (k + 1)) = true := by rw [ha]; simp
              have Hd := hide hd'
              have Ha := hide ha'
              clear ht hd ha hd' ha'
              go_wp2_with (first
                | (go_at_call_of 25 va; refine (unhide HC1 _ (unhide HBw)).mono ?_; rintro e w1 ⟨rfl, hB1⟩; have HW1 : Hid (Below w.heap.size w w1) := hide ((unhide HBw).trans (hB1.mono hle)); obtain ⟨_, e2⟩ := unhide HK w1 (unhide HW1); clear hB1)
                | (go_at_call_of 25 vr; refine (unhide HC2 _ (unhide HW1)).mono ?_; rintro e w2 ⟨rfl, hB2⟩; have HW2 : Hid (Below w.heap.size w w2) := hide ((unhide HW1).trans (hB2.mono (unhide HW1).size)); obtain ⟨e3, _⟩ := unhide HK w2 (unhide HW2); clear hB2))
              exact ⟨⟨k + 1, by omega, by go_num, by rw [unhide Ha], unhide Hd, unhide HW2⟩, by simp [intOf]; omega⟩
            · have ha' : al x nm (Z.take (k + 1)) = a0 := by rw [ha]; simp [h1]
              have Hd := hide hd'
              have Ha := hide ha'
              clear ht hd ha hd' ha'
              go_wp2_with (first
                | (go_at_call_of 25 va; refine (unhide HC1 _ (unhide HBw)).mono ?_; rintro e w1 ⟨rfl, hB1⟩; have HW1 : Hid (Below w.heap.size w w1) := hide ((unhide HBw).trans (hB1.mono hle)); obtain ⟨_, e2⟩ := unhide HK w1 (unhide HW1); clear hB1)
                | (go_at_call_of 25 vr; refine (unhide HC2 _ (unhide HW1)).mono ?_; rintro e w2 ⟨rfl, hB2⟩; have HW2 : Hid (Below w.heap.size w w2) := hide ((unhide HW1).trans (hB2.mono (unhide HW1).size)); obtain ⟨e3, _⟩ := unhide HK w2 (unhide HW2); clear hB2))
              exact ⟨⟨k + 1, by omega, by go_num, by rw [unhide Ha], unhide Hd, unhide HW2⟩, by simp [intOf]; omega⟩
    · have he : Z.take k = Z := List.take_of_length_le (by rw [unhide HN]; omega)
      rw [he] at hdn ⊢
      have HD : Hid (al x nm Z = dec x nm Z) := hide (by unfold dec; rw [hdn]; simp)
      have HBw := hide hBw
      clear he hdn hBw Hs HZ HM
      generalize al x nm Z = a0 at *
      go_wp2
      go_ret
      exact ⟨by rw [← unhide HD]; rfl, unhide HBw⟩

end Go.Proofs.Qxb6000393aDoor
