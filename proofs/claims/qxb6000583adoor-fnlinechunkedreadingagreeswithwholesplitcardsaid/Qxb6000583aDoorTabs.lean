/-
  What the library's three variables must hold for bytes.IndexAny: utf8's two tables as Go's text lays them; some int in bytealg.MaxLen.
-/
import Derived.Test.Qxb6000583aDoorSeg
import Derived.Shelf.Unicode.DecodeSlow
namespace Go.Proofs.Qxb6000583aDoor
open Go.RowKit

def Tabs (w : World) : Prop := Lib.Utf8Tabs 1 2 w ∧ ∃ m, w.cell? ⟨0, 0, none⟩ = some (.int .i64 m)

theorem Tabs.below {w w' : World} (h : Tabs w) (hB : Below w.heap.size w w') : Tabs w' := by
  have H : ∀ {b o : Nat} {v : Value}, w.cell? ⟨b, o, none⟩ = some v → w'.cell? ⟨b, o, none⟩ = some v := fun {b o v} h => by
    rw [hB.cell (p := ⟨b, o, none⟩) (World.block_lt_of_cell? _ _ h)]; exact h
  obtain ⟨⟨h1, h2⟩, m, hm⟩ := h
  exact ⟨⟨fun c hc => H (h1 c hc), fun i hi => ⟨H (h2 i hi).1, H (h2 i hi).2⟩⟩, m, H hm⟩

theorem below_drewN_any (w : World) (q : Nat) : Below w.heap.size w (w.drewN q) := ⟨rfl, rfl, rfl, Nat.le_refl _, fun _ _ => rfl⟩

end Go.Proofs.Qxb6000583aDoor
