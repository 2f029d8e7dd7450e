/-
  The project's small functions, walked: noLineEnd, bytesEqual, zzBytes.
-/
import Derived.Test.Qxb6000009aDoorProg
import Derived.Test.Qxb6000009aDoorSeg
import Derived.WalkKit
import Derived.WalkSpells
import Derived.WalkLawsBesides
import Derived.Deep.QuietTactic
import Derived.BigQuiet
namespace Go.Proofs.Qxb6000009aDoor
open Go.RowKit

def NoEndPost (f : Nat → Int) (n : Nat) (w : World) (e : Ending) (w' : World) : Prop :=
  ∃ r : Bool, e = .returned (.bool r) ∧ (r = true ↔ ∀ j, j < n → ¬ isE (f j)) ∧ w' = w

set_option maxHeartbeats 400000 in
theorem noLineEnd_any (p : Option Addr) (n c : Nat) (f : Nat → Int) (w : World) (hn : n ≤ 1048576) (hs : Seg w p n f) :
    Calls Tryd.prog 7 #[.slice p n c] w (NoEndPost f n w) := by
  go_enter Tryd.func7, Tryd.ntmps7
  go_wp2
  go_loop [3] (fun i => ∃ k : Nat, k ≤ n ∧ i = .int .i64 k ∧ ∀ j, j < k → ¬ isE (f j)) (fun i => n - (intOf i).toNat)
  case atStart => exact ⟨0, Nat.zero_le _, rfl, fun j h => absurd h (Nat.not_lt_zero j)⟩
  case round =>
    obtain ⟨k, hk, rfl, hno⟩ := hrel
    have Hno : Hid (∀ j, j < k → ¬ isE (f j)) := hno
    clear hno
    by_cases hlt : k < n
    · obtain ⟨b, o, rfl, hc⟩ := hs (by omega)
      have hck := hc k hlt
      clear hc hs
      by_cases hE : isE (f k)
      · have HE := hide hE
        have ht : (f k == 13) = true ∨ ((f k == 13) = false ∧ (f k == 10) = true) := by
          rcases hE with h | h
          · exact Or.inl (by simp [h])
          · exact Or.inr (by simp [h])
        clear hE
        rcases ht with ht | ⟨ht, ht'⟩
        all_goals
          go_wp2
          go_ret
          exact ⟨false, rfl, ⟨fun h => (by cases h), fun h => absurd (unhide HE) (h k hlt)⟩, rfl⟩
      · have HE := hide hE
        have h1 : (f k == 13) = false := by simp; intro h; exact hE (Or.inl h)
        have h2 : (f k == 10) = false := by simp; intro h; exact hE (Or.inr h)
        clear hE
        go_wp2
        go_round
        case rel => exact ⟨k + 1, by omega, by go_num, fun j hj => by
          by_cases e : j = k
          · subst e; exact unhide HE
          · exact Hno.out j (by omega)⟩
        case measure => simp [intOf]; omega
    · go_wp2
      go_ret
      exact ⟨true, rfl, ⟨fun _ j hj => Hno.out j (by omega), fun _ => rfl⟩, rfl⟩

def EqPost (f g : Nat → Int) (n m : Nat) (w : World) (e : Ending) (w' : World) : Prop :=
  ∃ r : Bool, e = .returned (.bool r) ∧ (r = true ↔ n = m ∧ ∀ j, j < n → f j = g j) ∧ ∃ q, w' = w.drewN q

set_option maxHeartbeats 400000 in
theorem bytesEqual_any (p q : Option Addr) (n c m d : Nat) (f g : Nat → Int) (w : World) (hn : n ≤ 1048576) (hm : m ≤ 1048576) (hs : Seg w p n f) (ht : Seg w q m g) :
    Calls Tryd.prog 10 #[.slice p n c, .slice q m d] w (EqPost f g n m w) := by
  by_cases hnm : n = m
  · subst hnm
    have hq : ((n : Int) != (n : Int)) = false := by simp
    go_enter Tryd.func10, Tryd.ntmps10
    go_wp2
    go_loopw [5] (fun i wr => ∃ k : Nat, k ≤ n ∧ i = .int .i64 k ∧ (∀ j, j < k → f j = g j) ∧ ∃ q, wr = w.drewN q) (fun i _ => n - (intOf i).toNat)
    case atStart => exact ⟨0, Nat.zero_le _, rfl, fun j h => absurd h (Nat.not_lt_zero j), 0, rfl⟩
    case round =>
      obtain ⟨k, hk, rfl, hno, q', rfl⟩ := hrel
      have Hno := hide hno
      clear hno
      by_cases hlt : k < n
      · obtain ⟨b, o, rfl, hc⟩ := hs (by omega)
        have hck := hc k hlt
        clear hc hs
        obtain ⟨b', o', rfl, hc⟩ := ht (by omega)
        have hck' := hc k hlt
        clear hc ht
        have hlt' : (k : Int) < (n : Int) := by omega
        go_wp2
        go_quiet (fail)
        by_cases he : f k = g k
        · have HE := hide he
          have hb : (f k != g k) = false := by simp [he]
          clear he
          go_wp2
          go_roundw
          case rel => exact ⟨k + 1, by omega, by go_num, fun j hj => by
            by_cases e : j = k
            · subst e; exact unhide HE
            · exact unhide Hno j (by omega), _, rfl⟩
          case measure => simp [intOf]; omega
        · have HE := hide he
          have hb : (f k != g k) = true := by simp [he]
          clear he
          go_wp2
          go_ret
          exact ⟨false, rfl, ⟨fun h => (by cases h), fun h => absurd (h.2 k hlt) (unhide HE)⟩, q' + nq, by simp⟩
      · go_wp2
        go_ret
        exact ⟨true, rfl, ⟨fun _ => ⟨rfl, fun j hj => unhide Hno j (by omega)⟩, fun _ => rfl⟩, q', rfl⟩
  · have hq : ((n : Int) != (m : Int)) = true := by rw [bne_iff_ne]; omega
    go_enter Tryd.func10, Tryd.ntmps10
    go_wp2
    go_ret
    exact ⟨false, rfl, ⟨fun h => (by cases h), fun h => absurd h.1 hnm⟩, 0, rfl⟩

end Go.Proofs.Qxb6000009aDoor
