/-
  zzStringsBytes and zzStmtsBytes, walked.
-/
import Derived.Test.Qxb6000393aDoorCopyZ
namespace Go.Proofs.Qxb6000393aDoor
open Go.RowKit

def SizePost (w : World) (e : Ending) (w' : World) : Prop := ∃ N : Nat, e = .returned (.int .i64 (N : Int)) ∧ N ≤ 4194304 ∧ w' = w

set_option maxRecDepth 100000 in
set_option maxHeartbeats 2000000 in
/-- zzStringsBytes. -/
theorem size15 (T0 : Nat) (v : Value) (L : List (List UInt8)) (w : World) (hT0 : T0 ≤ 4194304) (hn : L.length ≤ 100000000) (hs : Strs w v L) : Calls Tryd.prog 15 #[.int .i64 (T0 : Int), v] w (SizePost w) := by
  obtain ⟨p, c, rfl, hp⟩ := hs
  have Hp := hide hp
  clear hp
  generalize hN : L.length = n at *
  have HN := hide hN
  clear hN
  by_cases hT : T0 ≤ 1048576
  · by_cases h0 : n ≤ 65536
    · have h1 : ¬ (1048576 : Int) < (T0 : Int) := by omega
      have h2 : ¬ (65536 : Int) < (n : Int) := by omega
      go_enter Tryd.func15, Tryd.ntmps15
      go_wp2
      go_loop [0, 5] (fun a b => ∃ T k : Nat, a = .int .i64 (T : Int) ∧ b = .int .i64 (k : Int) ∧ k ≤ n ∧ T ≤ 4194304) (fun _ b => n - (intOf b).toNat)
      case atStart => exact ⟨T0 + 16 * n, 0, by go_num, rfl, Nat.zero_le _, by omega⟩
      case round =>
        obtain ⟨T, k, rfl, rfl, hk, hT'⟩ := hrel
        by_cases hlt : k < n
        · obtain ⟨b, o, rfl, hc⟩ := unhide Hp (by omega)
          have hk1 := hc k hlt
          clear hc
          dsimp only at hk1
          generalize L[k]?.getD [] = x at hk1
          have hl := len_S x
          by_cases h3 : T ≤ 1048576
          · have h4 : ¬ (1048576 : Int) < (T : Int) := by omega
            by_cases h5 : x.length ≤ 1048576
            · have h6 : ¬ (1048576 : Int) < (x.length : Int) := by omega
              go_wp2
              go_round
              case rel => exact ⟨T + x.length, k + 1, by go_num, by go_num, by omega, by omega⟩
              case measure => simp [intOf]; omega
            · have h6 : (1048576 : Int) < (x.length : Int) := by omega
              go_wp2
              go_ret
              exact ⟨1048577, rfl, by omega, rfl⟩
          · have h4 : (1048576 : Int) < (T : Int) := by omega
            go_wp2
            go_ret
            exact ⟨T, rfl, by omega, rfl⟩
        · go_wp2
          go_ret
          exact ⟨T, rfl, by omega, rfl⟩
    · have h1 : ¬ (1048576 : Int) < (T0 : Int) := by omega
      have h2 : (65536 : Int) < (n : Int) := by omega
      go_enter Tryd.func15, Tryd.ntmps15
      go_wp2
      go_ret
      exact ⟨1048577, rfl, by omega, rfl⟩
  · have h1 : (1048576 : Int) < (T0 : Int) := by omega
    go_enter Tryd.func15, Tryd.ntmps15
    go_wp2
    go_ret
    exact ⟨T0, rfl, hT0, rfl⟩

set_option maxRecDepth 100000 in
set_option maxHeartbeats 2000000 in
/-- zzStmtsBytes. -/
theorem size16 (T0 : Nat) (v : Value) (Z : List ZS) (w : World) (hT0 : T0 ≤ 4194304) (hZ : SmallZ Z) (hs : Zs w v Z) : Calls Tryd.prog 16 #[.int .i64 (T0 : Int), v] w (SizePost w) := by
  obtain ⟨p, c, rfl, hp⟩ := hs
  have Hp := hide hp
  have HZ := hide hZ
  have hn := hZ.1
  clear hp hZ
  generalize hN : Z.length = n at *
  have HN := hide hN
  clear hN
  by_cases hT : T0 ≤ 1048576
  · by_cases h0 : n ≤ 16384
    · have h1 : ¬ (1048576 : Int) < (T0 : Int) := by omega
      have h2 : ¬ (16384 : Int) < (n : Int) := by omega
      go_enter Tryd.func16, Tryd.ntmps16
      go_wp2
      go_loop [0, 5] (fun a b => ∃ T k : Nat, a = .int .i64 (T : Int) ∧ b = .int .i64 (k : Int) ∧ k ≤ n ∧ T ≤ 4194304) (fun _ b => n - (intOf b).toNat)
      case atStart => exact ⟨T0 + 64 * n, 0, by go_num, rfl, Nat.zero_le _, by omega⟩
      case round =>
        obtain ⟨T, k, rfl, rfl, hk, hT'⟩ := hrel
        by_cases hlt : k < n
        · obtain ⟨b, o, rfl, hc⟩ := unhide Hp (by omega)
          have hzk := hc k hlt
          have hsm := (unhide HZ).at k (by rw [unhide HN]; exact hlt)
          clear hc
          generalize Z[k]?.getD z0 = z at hzk hsm
          obtain ⟨va, vr, k0, k1, k2, k3, k4, k5⟩ := hzk
          have HA : Hid (∀ T : Nat, T ≤ 4194304 → Calls Tryd.prog 15 #[.int .i64 (T : Int), va] w (SizePost w)) := hide fun T h => size15 T va _ w h hsm.1.1 k4
          have HR : Hid (∀ T : Nat, T ≤ 4194304 → Calls Tryd.prog 15 #[.int .i64 (T : Int), vr] w (SizePost w)) := hide fun T h => size15 T vr _ w h hsm.2.1 k5
          clear k4 k5 hsm k0 k3
          go_wp2_with (first
            | (go_at_call_of 15 va; refine (unhide HA _ hT').mono ?_; rintro e w1 ⟨N1, rfl, hN1, hw1⟩; obtain rfl : w = w1 := hw1.symm)
            | (go_at_call_of 15 vr; refine (unhide HR _ hN1).mono ?_; rintro e w2 ⟨N2, rfl, hN2, hw2⟩; obtain rfl : w = w2 := hw2.symm; by_cases h3 : (1048576 : Int) < (N2 : Int)))
          · go_ret
            exact ⟨N2, rfl, hN2, rfl⟩
          · exact ⟨⟨N2, k + 1, rfl, by go_num, by omega, by omega⟩, by simp [intOf]; omega⟩
        · go_wp2
          go_ret
          exact ⟨T, rfl, by omega, rfl⟩
    · have h1 : ¬ (1048576 : Int) < (T0 : Int) := by omega
      have h2 : (16384 : Int) < (n : Int) := by omega
      go_enter Tryd.func16, Tryd.ntmps16
      go_wp2
      go_ret
      exact ⟨1048577, rfl, by omega, rfl⟩
  · have h1 : (1048576 : Int) < (T0 : Int) := by omega
    go_enter Tryd.func16, Tryd.ntmps16
    go_wp2
    go_ret
    exact ⟨T0, rfl, hT0, rfl⟩

end Go.Proofs.Qxb6000393aDoor
