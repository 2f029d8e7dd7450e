/-
  zzBytes, walked.
-/
import Derived.Test.Qxb6000393aDoorRof
namespace Go.Proofs.Qxb6000393aDoor
open Go.RowKit

/-- A list of strings within the law's bound. -/
def Bd (A : List (List UInt8)) : Prop := A.length ≤ 1048576 ∧ ∀ j, j < A.length → (A[j]?.getD []).length ≤ 1048576
theorem Bd.small {A : List (List UInt8)} (h : Bd A) : Small A := ⟨Nat.le_trans h.1 (by decide), fun s hs => by
  obtain ⟨j, hj, rfl⟩ := List.getElem_of_mem hs
  have := h.2 j hj
  rw [List.getElem?_eq_getElem hj] at this
  exact Nat.lt_of_le_of_lt this (by decide)⟩
theorem pats_take (Z : List ZS) (k : Nat) (h : k < Z.length) (z : ZS) (hz : Z[k]?.getD z0 = z) : pats (Z.take (k + 1)) = pats (Z.take k) + z.2.1.length := by
  rw [List.getElem?_eq_getElem h] at hz
  have hz' : Z[k] = z := hz
  rw [List.take_succ_eq_append_getElem h, hz']
  unfold pats
  rw [List.map_append, List.sum_append]; simp

def BytesPost (Z : List ZS) (x : List UInt8) (L : List (List UInt8)) (w : World) (e : Ending) (w' : World) : Prop :=
  ∃ r : Bool, e = .returned (.bool r) ∧ w' = w ∧ (r = true → Z.length ≤ 1048576 ∧ pats Z ≤ 1048576 ∧ (∀ j, j < Z.length → Bd (Z[j]?.getD z0).2.1 ∧ Bd (Z[j]?.getD z0).2.2.1) ∧ x.length ≤ 1048576 ∧ Bd L)
theorem bytes_no {Z : List ZS} {x : List UInt8} {L : List (List UInt8)} {w : World} : BytesPost Z x L w (.returned (.bool false)) w := ⟨false, rfl, rfl, fun h => by cases h⟩

set_option maxRecDepth 100000 in
set_option maxHeartbeats 8000000 in
/-- zzBytes. -/
theorem bytes14 (v0 v2 : Value) (Z : List ZS) (x : List UInt8) (L : List (List UInt8)) (w : World) (hn : Z.length ≤ 9223372036854775807) (hl : L.length ≤ 9223372036854775807) (hx : x.length ≤ 9223372036854775807) (hz : ∀ j, j < Z.length → (Z[j]?.getD z0).2.1.length ≤ 9223372036854775807 ∧ (Z[j]?.getD z0).2.2.1.length ≤ 9223372036854775807)
    (hs : Zs w v0 Z) (hL : Strs w v2 L) : Calls Tryd.prog 14 #[v0, S x, v2] w (BytesPost Z x L w) := by
  obtain ⟨p0, c0, rfl, hs⟩ := hs
  obtain ⟨p2, c2, rfl, hL⟩ := hL
  have Hs := hide hs
  have HL := hide hL
  have Hz := hide hz
  have hlx := len_S x
  clear hs hL hz
  generalize hN : Z.length = n at *
  have HN := hide hN
  generalize hM : L.length = m at *
  have HM := hide hM
  clear hN hM
  by_cases h0 : n ≤ 1048576
  · go_enter Tryd.func14, Tryd.ntmps14
    go_wp2
    go_loop [7, 8] (fun a i => ∃ T k : Nat, a = .int .i64 (T : Int) ∧ i = .int .i64 (k : Int) ∧ k ≤ n ∧ T ≤ 1048576 ∧ pats (Z.take k) ≤ T ∧ ∀ j, j < k → Bd (Z[j]?.getD z0).2.1 ∧ Bd (Z[j]?.getD z0).2.2.1) (fun _ i => n - (intOf i).toNat)
    case atStart => exact ⟨n, 0, by go_num, rfl, Nat.zero_le _, h0, Nat.zero_le _, fun j hj => absurd hj (Nat.not_lt_zero j)⟩
    case round =>
      obtain ⟨T, k, rfl, rfl, hk, hT, hpt, hbd⟩ := hrel
      by_cases hlt : k < n
      · obtain ⟨b, o, rfl, hc⟩ := unhide Hs (by omega)
        have hlk : k < Z.length := by rw [unhide HN]; exact hlt
        have hzk := hc k hlt
        have hzl := unhide Hz k hlt
        have hp1 := pats_take Z k hlk _ rfl
        have Hbd := hide hbd
        obtain ⟨⟨ez, Az, Rz, pz⟩, hze⟩ : ∃ z, Z[k]?.getD z0 = z := ⟨_, rfl⟩
        rw [hze] at hzk hzl hp1
        obtain ⟨va, vr, k0, k1, k2, k3, ⟨pa, ca, rfl, k4⟩, ⟨pr, cr, rfl, k5⟩⟩ := hzk
        dsimp only at k1 k2 k4 k5 hzl hp1
        have HA : Hid (SegV w pa Az.length (fun j => S (Az[j]?.getD []))) := hide k4
        have HR : Hid (SegV w pr Rz.length (fun j => S (Rz[j]?.getD []))) := hide k5
        have Hze := hide hze
        clear hc k4 k5 k0 k3 hze hlk hbd
        generalize hna : Az.length = na at *
        generalize hnr : Rz.length = nr at *
        have Hna := hide hna
        have Hnr := hide hnr
        have Hp1 := hide hp1
        have Hpt := hide hpt
        clear hna hnr hp1 hpt
        obtain ⟨hzl1, hzl2⟩ := hzl
        by_cases h1 : na ≤ 1048576
        · have q1 : ¬ (1048576 : Int) < (na : Int) := by omega
          by_cases h2 : T + na ≤ 1048576
          · have q2 : ¬ (1048576 : Int) < (T : Int) + (na : Int) := by omega
            go_wp2
            go_loop [7, 9] (fun a i => ∃ T2 t : Nat, a = .int .i64 (T2 : Int) ∧ i = .int .i64 (t : Int) ∧ t ≤ na ∧ T2 ≤ 1048576 ∧ T + na ≤ T2 ∧ ∀ j, j < t → (Az[j]?.getD []).length ≤ 1048576) (fun _ i => na - (intOf i).toNat)
            case atStart => exact ⟨T + na, 0, by go_num, rfl, Nat.zero_le _, h2, Nat.le_refl _, fun j hj => absurd hj (Nat.not_lt_zero j)⟩
            case round =>
              obtain ⟨T2, t, rfl, rfl, ht, hT2, hTT, hba⟩ := hrel
              have Hba := hide hba
              clear hba
              by_cases htl : t < na
              · obtain ⟨b1, o1, rfl, hc1⟩ := unhide HA (by omega)
                have hc2 := hc1 t htl
                dsimp only at hc2
                obtain ⟨s, hse⟩ : ∃ s, Az[t]?.getD [] = s := ⟨_, rfl⟩
                rw [hse] at hc2
                have Hse := hide hse
                have hls := len_S s
                clear hc1 hse
                by_cases h3 : s.length ≤ 1048576
                · have q3 : ¬ (1048576 : Int) < (s.length : Int) := by omega
                  by_cases h4 : T2 + s.length ≤ 1048576
                  · have q4 : ¬ (1048576 : Int) < (T2 : Int) + (s.length : Int) := by omega
                    go_wp2
                    go_round
                    case rel => exact ⟨T2 + s.length, t + 1, by go_num, by go_num, by omega, h4, by omega, fun j hj => by
                      by_cases e : j = t
                      · rw [e, unhide Hse]; exact h3
                      · exact unhide Hba j (by omega)⟩
                    case measure => simp [intOf]; omega
                  · have q4 : (1048576 : Int) < (T2 : Int) + (s.length : Int) := by omega
                    go_wp2
                    go_ret
                    exact bytes_no
                · have q3 : (1048576 : Int) < (s.length : Int) := by omega
                  go_wp2
                  go_ret
                  exact bytes_no
              · by_cases h5 : nr ≤ 1048576
                · have q5 : ¬ (1048576 : Int) < (nr : Int) := by omega
                  by_cases h6 : T2 + nr ≤ 1048576
                  · have q6 : ¬ (1048576 : Int) < (T2 : Int) + (nr : Int) := by omega
                    go_wp2
                    go_loop [7, 10] (fun a i => ∃ T3 t3 : Nat, a = .int .i64 (T3 : Int) ∧ i = .int .i64 (t3 : Int) ∧ t3 ≤ nr ∧ T3 ≤ 1048576 ∧ T + na ≤ T3 ∧ ∀ j, j < t3 → (Rz[j]?.getD []).length ≤ 1048576) (fun _ i => nr - (intOf i).toNat)
                    case atStart => exact ⟨T2 + nr, 0, by go_num, rfl, Nat.zero_le _, h6, by omega, fun j hj => absurd hj (Nat.not_lt_zero j)⟩
                    case round =>
                      obtain ⟨T3, t3, rfl, rfl, ht3, hT3, hTT3, hbr⟩ := hrel
                      have Hbr := hide hbr
                      clear hbr
                      by_cases htr : t3 < nr
                      · obtain ⟨b1, o1, rfl, hc1⟩ := unhide HR (by omega)
                        have hc2 := hc1 t3 htr
                        dsimp only at hc2
                        obtain ⟨s, hse⟩ : ∃ s, Rz[t3]?.getD [] = s := ⟨_, rfl⟩
                        rw [hse] at hc2
                        have Hse := hide hse
                        have hls := len_S s
                        clear hc1 hse
                        by_cases h3 : s.length ≤ 1048576
                        · have q3 : ¬ (1048576 : Int) < (s.length : Int) := by omega
                          by_cases h4 : T3 + s.length ≤ 1048576
                          · have q4 : ¬ (1048576 : Int) < (T3 : Int) + (s.length : Int) := by omega
                            go_wp2
                            go_round
                            case rel => exact ⟨T3 + s.length, t3 + 1, by go_num, by go_num, by omega, h4, by omega, fun j hj => by
                              by_cases e : j = t3
                              · rw [e, unhide Hse]; exact h3
                              · exact unhide Hbr j (by omega)⟩
                            case measure => simp [intOf]; omega
                          · have q4 : (1048576 : Int) < (T3 : Int) + (s.length : Int) := by omega
                            go_wp2
                            go_ret
                            exact bytes_no
                        · have q3 : (1048576 : Int) < (s.length : Int) := by omega
                          go_wp2
                          go_ret
                          exact bytes_no
                      · go_wp2
                        exact ⟨⟨T3, k + 1, rfl, by go_num, by omega, hT3, by rw [unhide Hp1]; have := unhide Hpt; omega, fun j hj => by
                          by_cases e : j = k
                          · rw [e, unhide Hze]
                            exact ⟨⟨by rw [unhide Hna]; exact h1, fun j hj => unhide Hba j (by rw [unhide Hna] at hj; omega)⟩, ⟨by rw [unhide Hnr]; exact h5, fun j hj => unhide Hbr j (by rw [unhide Hnr] at hj; omega)⟩⟩
                          · exact unhide Hbd j (by omega)⟩, by simp [intOf]; omega⟩
                  · have q6 : (1048576 : Int) < (T2 : Int) + (nr : Int) := by omega
                    go_wp2
                    go_ret
                    exact bytes_no
                · have q5 : (1048576 : Int) < (nr : Int) := by omega
                  go_wp2
                  go_ret
                  exact bytes_no
          · have q2 : (1048576 : Int) < (T : Int) + (na : Int) := by omega
            go_wp2
            go_ret
            exact bytes_no
        · have q1 : (1048576 : Int) < (na : Int) := by omega
          go_wp2
          go_ret
          exact bytes_no
      · have he : Z.take k = Z := List.take_of_length_le (by rw [unhide HN]; omega)
        rw [he] at hpt
        have Hpt := hide hpt
        have Hbd : Hid (∀ j, j < n → Bd (Z[j]?.getD z0).2.1 ∧ Bd (Z[j]?.getD z0).2.2.1) := hide fun j hj => hbd j (by omega)
        clear he hpt hbd
        by_cases h1 : x.length ≤ 1048576
        · have q1 : ¬ (1048576 : Int) < (x.length : Int) := by omega
          by_cases h2 : T + x.length ≤ 1048576
          · have q2 : ¬ (1048576 : Int) < (T : Int) + (x.length : Int) := by omega
            by_cases h5 : m ≤ 1048576
            · have q5 : ¬ (1048576 : Int) < (m : Int) := by omega
              by_cases h6 : T + x.length + m ≤ 1048576
              · have q6 : ¬ (1048576 : Int) < (T : Int) + (x.length : Int) + (m : Int) := by omega
                go_wp2
                go_loop [7, 11] (fun a i => ∃ T3 t3 : Nat, a = .int .i64 (T3 : Int) ∧ i = .int .i64 (t3 : Int) ∧ t3 ≤ m ∧ T3 ≤ 1048576 ∧ ∀ j, j < t3 → (L[j]?.getD []).length ≤ 1048576) (fun _ i => m - (intOf i).toNat)
                case atStart => exact ⟨T + x.length + m, 0, by go_num, rfl, Nat.zero_le _, h6, fun j hj => absurd hj (Nat.not_lt_zero j)⟩
                case round =>
                  obtain ⟨T3, t3, rfl, rfl, ht3, hT3, hbr⟩ := hrel
                  have Hbr := hide hbr
                  clear hbr
                  by_cases htr : t3 < m
                  · obtain ⟨b1, o1, rfl, hc1⟩ := unhide HL (by omega)
                    have hc2 := hc1 t3 htr
                    dsimp only at hc2
                    obtain ⟨s, hse⟩ : ∃ s, L[t3]?.getD [] = s := ⟨_, rfl⟩
                    rw [hse] at hc2
                    have Hse := hide hse
                    have hls := len_S s
                    clear hc1 hse
                    by_cases h3 : s.length ≤ 1048576
                    · have q3 : ¬ (1048576 : Int) < (s.length : Int) := by omega
                      by_cases h4 : T3 + s.length ≤ 1048576
                      · have q4 : ¬ (1048576 : Int) < (T3 : Int) + (s.length : Int) := by omega
                        go_wp2
                        go_round
                        case rel => exact ⟨T3 + s.length, t3 + 1, by go_num, by go_num, by omega, h4, fun j hj => by
                          by_cases e : j = t3
                          · rw [e, unhide Hse]; exact h3
                          · exact unhide Hbr j (by omega)⟩
                        case measure => simp [intOf]; omega
                      · have q4 : (1048576 : Int) < (T3 : Int) + (s.length : Int) := by omega
                        go_wp2
                        go_ret
                        exact bytes_no
                    · have q3 : (1048576 : Int) < (s.length : Int) := by omega
                      go_wp2
                      go_ret
                      exact bytes_no
                  · have HD : Hid (BytesPost Z x L w (.returned (.bool true)) w) := hide ⟨true, rfl, rfl, fun _ => ⟨by rw [unhide HN]; exact h0, Nat.le_trans (unhide Hpt) hT, by rw [unhide HN]; exact unhide Hbd, h1, by rw [unhide HM]; exact h5, fun j hj => unhide Hbr j (by rw [unhide HM] at hj; omega)⟩⟩
                    go_wp2
                    go_ret
                    exact unhide HD
              · have q6 : (1048576 : Int) < (T : Int) + (x.length : Int) + (m : Int) := by omega
                go_wp2
                go_ret
                exact bytes_no
            · have q5 : (1048576 : Int) < (m : Int) := by omega
              go_wp2
              go_ret
              exact bytes_no
          · have q2 : (1048576 : Int) < (T : Int) + (x.length : Int) := by omega
            go_wp2
            go_ret
            exact bytes_no
        · have q1 : (1048576 : Int) < (x.length : Int) := by omega
          go_wp2
          go_ret
          exact bytes_no
  · go_enter Tryd.func14, Tryd.ntmps14
    go_wp2
    go_ret
    exact bytes_no

end Go.Proofs.Qxb6000393aDoor
