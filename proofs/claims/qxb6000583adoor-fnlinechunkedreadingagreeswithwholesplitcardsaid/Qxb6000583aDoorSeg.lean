/-
  Slices of bytes as a function of the index ('Seg'), cut slices ('subp'): plain laws on worlds; nothing of the dump.
-/
import Derived.WalkKit
namespace Go.Proofs.Qxb6000583aDoor
open Go.RowKit

theorem hide {p : Prop} (h : p) : Hid p := h
theorem unhide {p : Prop} (h : Hid p) : p := h

/-- The n bytes at p are f 0, f 1, .. (of an empty slice nothing is said). -/
def Seg (w : World) (p : Option Addr) (n : Nat) (f : Nat → Int) : Prop :=
  0 < n → ∃ b o, p = some ⟨b, o, none⟩ ∧ ∀ j, j < n → w.cell? ⟨b, o + j, none⟩ = some (.int .u8 (f j))

/-- The address of 'xs[l:]', xs at p with capacity m. -/
def subp (p : Option Addr) (l m : Nat) : Option Addr := if m = l then p else p.map (·.add l)

/-- CR or LF. -/
def isE (c : Int) : Prop := c = 13 ∨ c = 10

theorem subp_some {b o l m : Nat} (h : l < m) : subp (some ⟨b, o, none⟩) l m = some ⟨b, o + l, none⟩ := by
  unfold subp; rw [if_neg (by omega)]; simp [Addr.add]

theorem Seg.zero (w : World) (p : Option Addr) (f : Nat → Int) : Seg w p 0 f := fun h => absurd h (Nat.lt_irrefl 0)

theorem Seg.below {w w' : World} {p : Option Addr} {n : Nat} {f : Nat → Int} (h : Seg w p n f) (hB : Below w.heap.size w w') : Seg w' p n f := fun h0 => by
  obtain ⟨b, o, rfl, hc⟩ := h h0
  exact ⟨b, o, rfl, fun i hi => by rw [hB.cell (p := ⟨b, o + i, none⟩) (World.block_lt_of_cell? _ _ (hc i hi))]; exact hc i hi⟩

theorem Seg.take {w : World} {p : Option Addr} {n k : Nat} {f : Nat → Int} (h : Seg w p n f) (hk : k ≤ n) : Seg w p k f := fun h0 => by
  obtain ⟨b, o, rfl, hc⟩ := h (by omega)
  exact ⟨b, o, rfl, fun i hi => hc i (by omega)⟩

theorem Seg.sub {w : World} {p : Option Addr} {n m l : Nat} {f : Nat → Int} (h : Seg w p n f) (_hl : l ≤ n) (hm : n ≤ m) : Seg w (subp p l m) (n - l) (fun j => f (l + j)) := fun h0 => by
  obtain ⟨b, o, rfl, hc⟩ := h (by omega)
  exact ⟨b, o + l, subp_some (by omega), fun i hi => by rw [show o + l + i = o + (l + i) from by omega]; exact hc (l + i) (by omega)⟩

theorem Seg.congr {w : World} {p : Option Addr} {n : Nat} {f g : Nat → Int} (h : Seg w p n f) (e : ∀ j, j < n → f j = g j) : Seg w p n g := fun h0 => by
  obtain ⟨b, o, rfl, hc⟩ := h h0
  exact ⟨b, o, rfl, fun i hi => by rw [hc i hi, e i hi]⟩

end Go.Proofs.Qxb6000583aDoor
