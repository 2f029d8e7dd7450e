/-
  The project's small functions, walked: bytesEq.
-/
import Derived.Test.Qxb6000583aDoorProg
import Derived.Test.Qxb6000583aDoorSeg
import Derived.WalkKit
import Derived.WalkSpells
import Derived.WalkLawsBesides
import Derived.Deep.QuietTactic
import Derived.BigQuiet
namespace Go.Proofs.Qxb6000583aDoor
open Go.RowKit

def EqPost (f g : Nat → Int) (n m : Nat) (w : World) (e : Ending) (w' : World) : Prop :=
  ∃ r : Bool, e = .returned (.bool r) ∧ (r = true ↔ n = m ∧ ∀ j, j < n → f j = g j) ∧ ∃ q, w' = w.drewN q

set_option maxHeartbeats 400000 in
theorem bytesEq_any (p q : Option Addr) (n c m d : Nat) (f g : Nat → Int) (w : World) (hn : n ≤ 1048576) (hm : m ≤ 1048576) (hs : Seg w p n f) (ht : Seg w q m g) :
    Calls Tryd.prog 9 #[.slice p n c, .slice q m d] w (EqPost f g n m w) := by
  by_cases hnm : n = m
  · subst hnm
    have hq : ((n : Int) != (n : Int)) = false := by simp
    go_enter Tryd.func9, Tryd.ntmps9
    go_wp2
    go_loopw [5] (fun i wr => ∃ k : Nat, k ≤ n ∧ i = .int .i64 k ∧ (∀ j, j < k → f j = g j) ∧ ∃ q, wr = w.drewN q) (fun i _ => n - (intOf i).toNat)
    case atStart => exact ⟨0, Nat.zero_le _, rfl, fun j h => absurd h (Nat.not_lt_zero j), 0, rfl⟩
    case round =>
      obtain ⟨k, hk, rfl, hno, q', rfl⟩ := hrel
      have Hno := hide hno
      clear hno
      by_cases hlt : k < n
      · obtain ⟨b, o, rfl, hc⟩ := hs (by omega)
        have hck := hc k hlt
        clear hc hs
        obtain ⟨b', o', rfl, hc⟩ := ht (by omega)
        have hck' := hc k hlt
        clear hc ht
        have hlt' : (k : Int) < (n : Int) := by omega
        go_wp2
        go_quiet (fail)
        by_cases he : f k = g k
        · have HE := hide he
          have hb : (f k != g k) = false := by simp [he]
          clear he
          go_wp2
          go_roundw
          case rel => exact ⟨k + 1, by omega, by go_num, fun j hj => by
            by_cases e : j = k
            · subst e; exact unhide HE
            · exact unhide Hno j (by omega), _, rfl⟩
          case measure => simp [intOf]; omega
        · have HE := hide he
          have hb : (f k != g k) = true := by simp [he]
          clear he
          go_wp2
          go_ret
          exact ⟨false, rfl, ⟨fun h => (by cases h), fun h => absurd (h.2 k hlt) (unhide HE)⟩, q' + nq, by simp⟩
      · go_wp2
        go_ret
        exact ⟨true, rfl, ⟨fun _ => ⟨rfl, fun j hj => unhide Hno j (by omega)⟩, fun _ => rfl⟩, q', rfl⟩
  · have hq : ((n : Int) != (m : Int)) = true := by rw [bne_iff_ne]; omega
    go_enter Tryd.func9, Tryd.ntmps9
    go_wp2
    go_ret
    exact ⟨false, rfl, ⟨fun h => (by cases h), fun h => absurd h.1 hnm⟩, 0, rfl⟩

end Go.Proofs.Qxb6000583aDoor
