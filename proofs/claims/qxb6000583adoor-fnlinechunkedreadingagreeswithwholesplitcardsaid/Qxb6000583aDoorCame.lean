/-
  A slice of bytes that came in, as a walk is told of it.
-/
import Derived.Test.Qxb6000583aDoorWrap
import Derived.OpenShut
namespace Go.Proofs.Qxb6000583aDoor
open Go.ChangeShapes Go.WideShapes Go.ChangeAt Go.RowKit

/-- What a walk is told of a slice of bytes that came in. -/
def Came (w : World) (p : Option Addr) (n c : Nat) (f : Nat → Int) : Prop :=
  Seg w p n f ∧ (∀ j, j < n → 0 ≤ f j ∧ f j ≤ 255) ∧ n ≤ c ∧ c ≤ maxLen ∧ (p = none → n = 0 ∧ c = 0)

theorem came_of {H : Type} {enc : TypeId × Value → H} {W : World} {a0 : Option Addr} {len cap : Nat} {d0 : DataW H} {p0 : List MemPlace}
    (h0 : DataW.Trod enc Tryd.prog W 0 (fun _ => true) true 22 (.slice a0 len cap) d0 p0) : ∃ f, Came W a0 len cap f := by
  obtain ⟨fuel, hf⟩ := h0
  rcases open_ints Tryd.underlying22 Tryd.underlying5 (by kernel_rfl) hf with ⟨hcs, _⟩ | ⟨x, l, c, zs, hcs, _, hl, hm, hz, _, hcell, hwz⟩
  · simp [Value.cells] at hcs
    obtain ⟨rfl, rfl, rfl⟩ := hcs
    exact ⟨fun _ => 0, Seg.zero _ _ _, fun j h => absurd h (Nat.not_lt_zero j), Nat.le_refl _, Nat.zero_le _, fun _ => ⟨rfl, rfl⟩⟩
  · simp [Value.cells] at hcs
    obtain ⟨rfl, rfl, rfl⟩ := hcs
    have hz' : zs.length = cap := by simpa using hz
    refine ⟨fun j => zs.getD j 0, fun h => ?_, fun j hj => ?_, hl, hm, fun h => by cases h⟩
    · obtain ⟨b, off, e, hc⟩ := ints_at hcell (by omega)
      exact ⟨b, off, congrArg some e, fun j hj => hc j (by omega)⟩
    · have hm' : zs.getD j 0 ∈ zs := by
        have : j < zs.length := by omega
        simp [List.getD, this]
      have := hwz _ hm'
      simp [Lit.wf, IntKind.min, IntKind.max, IntKind.bits, IntKind.signed] at this
      exact ⟨this.1, this.2⟩

end Go.Proofs.Qxb6000583aDoor
