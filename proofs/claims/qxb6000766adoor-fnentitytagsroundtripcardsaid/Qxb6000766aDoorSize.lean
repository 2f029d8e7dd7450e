/-
  zzBytes and zzStringsSize, walked.
-/
import Derived.Test.Qxb6000766aDoorPlain
namespace Go.Proofs.Qxb6000766aDoor
open Go.RowKit

def SizePost (w : World) (e : Ending) (w' : World) : Prop := ∃ N : Nat, e = .returned (.int .i64 (N : Int)) ∧ N ≤ 4194304 ∧ w' = w

set_option maxRecDepth 100000 in
set_option maxHeartbeats 1000000 in
theorem size_any (p : Option Addr) (n c : Nat) (F : Nat → List UInt8) (w : World) (hn : n ≤ 100000000) (hp : SegV w p n (fun j => S (F j))) : Calls Tryd.prog 7 #[.slice p n c] w (SizePost w) := by
  have Hp := hide hp
  clear hp
  go_enter Tryd.func7, Tryd.ntmps7
  go_wp2
  go_loop [3, 4] (fun a b => ∃ T k : Nat, a = .int .i64 (T : Int) ∧ b = .int .i64 (k : Int) ∧ k ≤ n ∧ T ≤ 1048576) (fun _ b => n - (intOf b).toNat)
  case atStart => exact ⟨0, 0, rfl, rfl, Nat.zero_le _, by omega⟩
  case round =>
    obtain ⟨T, k, rfl, rfl, hk, hT⟩ := hrel
    by_cases hlt : k < n
    · obtain ⟨b, o, rfl, hc⟩ := unhide Hp (by omega)
      have hk1 := hc k hlt
      have hl := len_S (F k)
      clear hc
      by_cases h1 : (F k).length ≤ 1048576
      · by_cases h2 : T + (16 + (F k).length) ≤ 1048576
        · have h3 : ¬ (1048576 : Int) < (T : Int) + (16 + ((F k).length : Int)) := by omega
          go_wp2
          go_round
          case rel => exact ⟨T + (16 + (F k).length), k + 1, by go_num, by go_num, by omega, by omega⟩
          case measure => simp [intOf]; omega
        · have h3 : (1048576 : Int) < (T : Int) + (16 + ((F k).length : Int)) := by omega
          go_wp2
          go_ret
          exact ⟨T + (16 + (F k).length), by go_num, by omega, rfl⟩
      · go_wp2
        go_ret
        exact ⟨1048577, rfl, by omega, rfl⟩
    · go_wp2
      go_ret
      exact ⟨T, rfl, by omega, rfl⟩

def BytesPost (n n1 n2 n3 : Nat) (F : Nat → List UInt8) (w : World) (e : Ending) (w' : World) : Prop :=
  ∃ r : Bool, e = .returned (.bool r) ∧ w' = w ∧ (r = true → n ≤ 1048576 ∧ n1 ≤ 1048576 ∧ n2 ≤ 1048576 ∧ n3 ≤ 1048576 ∧ ∀ j, j < n → (F j).length ≤ 1048576)

theorem bytes_no {n n1 n2 n3 : Nat} {F : Nat → List UInt8} {w : World} : BytesPost n n1 n2 n3 F w (.returned (.bool false)) w := ⟨false, rfl, rfl, fun h => by cases h⟩

set_option maxRecDepth 100000 in
set_option maxHeartbeats 2000000 in
theorem bytes_any (p p1 p2 p3 : Option Addr) (n n1 n2 n3 c c1 c2 c3 : Nat) (star : Bool) (F : Nat → List UInt8) (w : World) (hn : n ≤ 9223372036854775807) (hn1 : n1 ≤ 9223372036854775807) (hn2 : n2 ≤ 9223372036854775807) (hn3 : n3 ≤ 9223372036854775807)
    (hp : SegV w p n (fun j => S (F j))) : Calls Tryd.prog 6 #[.slice p n c, .slice p1 n1 c1, .slice p2 n2 c2, .slice p3 n3 c3, .bool star] w (BytesPost n n1 n2 n3 F w) := by
  have Hp := hide hp
  clear hp
  by_cases h0 : n ≤ 1048576
  · go_enter Tryd.func6, Tryd.ntmps6
    go_wp2
    go_loop [11, 12] (fun a b => ∃ T k : Nat, a = .int .i64 (T : Int) ∧ b = .int .i64 (k : Int) ∧ k ≤ n ∧ T ≤ 1048576 ∧ ∀ j, j < k → (F j).length ≤ 1048576) (fun _ b => n - (intOf b).toNat)
    case atStart => exact ⟨n, 0, by go_num, rfl, Nat.zero_le _, h0, fun j hj => absurd hj (Nat.not_lt_zero j)⟩
    case round =>
      obtain ⟨T, k, rfl, rfl, hk, hT, hF⟩ := hrel
      have HF := hide hF
      clear hF
      by_cases hlt : k < n
      · obtain ⟨b, o, rfl, hc⟩ := unhide Hp (by omega)
        have hk1 := hc k hlt
        have hl := len_S (F k)
        clear hc
        by_cases h1 : (F k).length ≤ 1048576
        · by_cases h2 : T + (F k).length ≤ 1048576
          · have h3 : ¬ (1048576 : Int) < (T : Int) + ((F k).length : Int) := by omega
            have HF2 : Hid (∀ j, j < k + 1 → (F j).length ≤ 1048576) := fun j hj => by
              by_cases e : j = k
              · rw [e]; exact h1
              · exact unhide HF j (by omega)
            go_wp2
            go_round
            case rel => exact ⟨T + (F k).length, k + 1, by go_num, by go_num, by omega, by omega, unhide HF2⟩
            case measure => simp [intOf]; omega
          · have h3 : (1048576 : Int) < (T : Int) + ((F k).length : Int) := by omega
            go_wp2
            go_ret
            exact bytes_no
        · go_wp2
          go_ret
          exact bytes_no
      · obtain rfl : k = n := by omega
        by_cases a1 : n1 ≤ 1048576
        · by_cases a2 : T + n1 ≤ 1048576
          · by_cases a3 : n2 ≤ 1048576
            · by_cases a4 : T + n1 + n2 ≤ 1048576
              · by_cases a5 : n3 ≤ 1048576
                · by_cases a6 : T + n1 + n2 + n3 ≤ 1048576
                  · go_wp2
                    go_ret
                    exact ⟨true, rfl, rfl, fun _ => ⟨h0, a1, a3, a5, unhide HF⟩⟩
                  · go_wp2
                    go_ret
                    exact bytes_no
                · go_wp2
                  go_ret
                  exact bytes_no
              · go_wp2
                go_ret
                exact bytes_no
            · go_wp2
              go_ret
              exact bytes_no
          · go_wp2
            go_ret
            exact bytes_no
        · go_wp2
          go_ret
          exact bytes_no
  · go_enter Tryd.func6, Tryd.ntmps6
    go_wp2
    go_ret
    exact bytes_no

end Go.Proofs.Qxb6000766aDoor
