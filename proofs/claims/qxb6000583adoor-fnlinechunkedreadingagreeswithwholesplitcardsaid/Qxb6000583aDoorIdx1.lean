/-
  bytes.IndexAny(s, "\r\n") at a slice of no byte, and of one.
-/
import Derived.Test.Qxb6000583aDoorIdxS
namespace Go.Proofs.Qxb6000583aDoor
open Go.RowKit

set_option maxRecDepth 100000 in
set_option maxHeartbeats 800000 in
theorem idx_none (p : Option Addr) (c : Nat) (f : Nat → Int) (w : World) :
    Calls Tryd.prog 14 #[.slice p 0 c, .string ⟨#[13, 10]⟩] w (IdxPost f 0 w) := by
  go_enter Tryd.func14, Tryd.ntmps14
  go_wp2
  refine wp_loop_rounds 1 ?_
  rw [rounds_succ]
  go_wp2
  go_ret
  exact ⟨-1, rfl, Or.inl ⟨rfl, fun j hj => absurd hj (Nat.not_lt_zero j)⟩, Below.refl _ _⟩

set_option maxRecDepth 100000 in
set_option maxHeartbeats 800000 in
theorem idx_one (b o c : Nat) (f : Nat → Int) (w : World) (hs : w.cell? ⟨b, o, none⟩ = some (.int .u8 (f 0))) (hf : 0 ≤ f 0 ∧ f 0 ≤ 255) :
    Calls Tryd.prog 14 #[.slice (some ⟨b, o, none⟩) 1 c, .string ⟨#[13, 10]⟩] w (IdxPost f 1 w) := by
  obtain ⟨x, hx⟩ : ∃ x, f 0 = x := ⟨_, rfl⟩
  rw [hx] at hs hf
  have Hx := hide hx
  clear hx
  obtain ⟨hx0, hx1⟩ := hf
  by_cases ha : x < 128
  · by_cases hE : isE x
    · have HE := hide hE
      obtain ⟨v, hv0, hv1, hib⟩ : ∃ v : Int, 0 ≤ v ∧ v ≤ 1 ∧ ∀ w, (callFunc 15 #[.string ⟨#[13, 10]⟩, .int .u8 x]).run Tryd.prog w = .ok (.value (.int .i64 v)) w := by
        rcases hE with rfl | rfl
        · exact ⟨0, by omega, by omega, fun w => by rw [ib_run]; rfl⟩
        · exact ⟨1, by omega, by omega, fun w => by rw [ib_run]; rfl⟩
      clear hE
      go_enter Tryd.func14, Tryd.ntmps14
      go_wp2
      go_ret
      exact ⟨0, rfl, Or.inr ⟨0, rfl, by omega, by rw [unhide Hx]; exact unhide HE, fun j hj => absurd hj (Nat.not_lt_zero j)⟩, Below.refl _ _⟩
    · have HE := hide hE
      have hib : ∀ w, (callFunc 15 #[.string ⟨#[13, 10]⟩, .int .u8 x]).run Tryd.prog w = .ok (.value (.int .i64 (-1))) w := fun w => by
        rw [ib_run, ib_no x hx0 hx1 hE]
      clear hE
      go_enter Tryd.func14, Tryd.ntmps14
      go_wp2
      go_ret
      exact ⟨-1, rfl, Or.inl ⟨rfl, fun j hj => by obtain rfl : j = 0 := (by omega); rw [unhide Hx]; exact unhide HE⟩, Below.refl _ _⟩
  · have n0 := next0 w
    have n1 := next1 w
    have n2 := next2 w
    have ha' : 128 ≤ x := by omega
    clear ha
    go_enter Tryd.func14, Tryd.ntmps14
    go_wp2
    refine wp_loop_rounds 3 ?_
    rw [rounds_succ]
    go_wp2
    rw [rounds_succ]
    go_wp2
    rw [rounds_succ]
    go_wp2
    go_ret
    exact ⟨-1, rfl, Or.inl ⟨rfl, fun j hj => by
      obtain rfl : j = 0 := by omega
      rw [unhide Hx]
      rintro (h | h) <;> omega⟩, (Below.refl _ _).alloc (Nat.le_refl _) _⟩

end Go.Proofs.Qxb6000583aDoor
