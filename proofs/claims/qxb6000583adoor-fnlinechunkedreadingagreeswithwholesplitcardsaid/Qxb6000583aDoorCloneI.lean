/-
  cloneInts, walked.
-/
import Derived.Test.Qxb6000583aDoorProg
import Derived.Test.Qxb6000583aDoorSeg
import Derived.WalkKit
import Derived.WalkSpells
import Derived.WalkLawsBesides
import Derived.Deep.OwnRows
namespace Go.Proofs.Qxb6000583aDoor
open Go.RowKit

/-- The n ints at p are g 0, g 1, .. (of an empty slice nothing is said). -/
def SegI (w : World) (p : Option Addr) (n : Nat) (f : Nat → Int) : Prop :=
  0 < n → ∃ b o, p = some ⟨b, o, none⟩ ∧ ∀ j, j < n → w.cell? ⟨b, o + j, none⟩ = some (.int .i64 (f j))
theorem SegI.below {w w' : World} {p : Option Addr} {n : Nat} {f : Nat → Int} (h : SegI w p n f) (hB : Below w.heap.size w w') : SegI w' p n f := fun h0 => by
  obtain ⟨b, o, rfl, hc⟩ := h h0
  exact ⟨b, o, rfl, fun i hi => by rw [hB.cell (p := ⟨b, o + i, none⟩) (World.block_lt_of_cell? _ _ (hc i hi))]; exact hc i hi⟩

/-- The copy behind k rounds. -/
def cloI (f : Nat → Int) (n k : Nat) : Array Value := ((List.range n).map fun j => Value.int .i64 (if j < k then f j else 0)).toArray
theorem cloI_size (f : Nat → Int) (n k : Nat) : (cloI f n k).size = n := by simp [cloI]
theorem cloI_at (f : Nat → Int) (n k j : Nat) (h : j < n) : (cloI f n k)[j]? = some (.int .i64 (if j < k then f j else 0)) := by
  simp [cloI, h]
theorem cloI_zero (f : Nat → Int) (n : Nat) : madeCells #[.int .i64 0] n = cloI f n 0 := by
  apply Array.ext_getElem?
  intro i
  by_cases h : i < n
  · rw [cloI_at f n 0 i h]; simp [madeCells, h, Nat.mod_one]
  · rw [Array.getElem?_eq_none (by rw [size_madeCells]; omega), Array.getElem?_eq_none (by rw [cloI_size]; omega)]
theorem cloI_step (f : Nat → Int) (n k : Nat) (h : k < n) : (cloI f n k).setIfInBounds k (.int .i64 (f k)) = cloI f n (k + 1) := by
  apply Array.ext_getElem?
  intro i
  by_cases hi : i < n
  · rw [cloI_at f n (k + 1) i hi, Array.getElem?_setIfInBounds]
    by_cases e : k = i
    · subst e; simp [cloI_size, h]
    · rw [if_neg e, cloI_at f n k i hi]
      by_cases h2 : i < k
      · rw [if_pos h2, if_pos (by omega)]
      · rw [if_neg h2, if_neg (by omega)]
  · rw [Array.getElem?_eq_none (by rw [Array.size_setIfInBounds, cloI_size]; omega), Array.getElem?_eq_none (by rw [cloI_size]; omega)]

theorem Tryd.info3 : (Tryd.prog.info? 3).map (fun i => (i.zero, i.size, i.bytes)) = some (some (.int .i64 0), 1, 8) := by kernel_rfl

def CloneIPost (f : Nat → Int) (n : Nat) (w : World) (e : Ending) (w' : World) : Prop :=
  e = .returned (.slice (some ⟨w.heap.size, 0, none⟩) n n) ∧ w' = w.alloc (.cells (cloI f n n) 3)

set_option maxHeartbeats 400000 in
theorem cloneInts_some (a : Addr) (n c : Nat) (f : Nat → Int) (w : World) (hn : n ≤ 1048576) (hs : SegI w (some a) n f) :
    Calls Tryd.prog 7 #[.slice (some a) n c] w (CloneIPost f n w) := by
  have hmk : ∀ w : World, (Instr.makeSlice 23 (.int .i64 (n : Int)) (.int .i64 (n : Int))).run Tryd.prog w = .ok (.slice (some ⟨w.heap.size, 0, none⟩) n n) (w.alloc (.cells (cloI f n 0) 3)) := fun w => by
    rw [run_make_row' 23 3 (.int .i64 0) 8 Tryd.underlying23 Tryd.info3 rfl .i64 .i64 n (by omega) (by omega) w, cloI_zero f n]
  have q22 : ∀ (w : World) (a : Option Addr) (n c n' c' : Nat), (binOp .eql 23 (.slice a n c) (.slice none n' c')).run Tryd.prog w = .ok (.bool a.isNone) w := fun w a n c n' c' => Lib.run_eql_slice_nil w _ _ a n c n' c' Tryd.underlying23
  go_enter Tryd.func7, Tryd.ntmps7
  go_wp2
  go_loopw [4] (fun i wr => ∃ k : Nat, k ≤ n ∧ i = .int .i64 k ∧ wr = w.alloc (.cells (cloI f n k) 3)) (fun i _ => n - (intOf i).toNat)
  case atStart => exact ⟨0, Nat.zero_le _, rfl, rfl⟩
  case round =>
    obtain ⟨k, hk, rfl, rfl⟩ := hrel
    by_cases hlt : k < n
    · obtain ⟨b, o, e, hc⟩ := hs (by omega)
      cases e
      have hck := hc k hlt
      have hb := World.block_lt_of_cell? _ _ hck
      simp only at hb
      clear hc hs hmk
      have hca := cloI_at f n k k hlt
      have Hst := hide (cloI_step f n k hlt)
      go_wp2
      go_roundw
      case rel => exact ⟨k + 1, by omega, by go_num, by rw [← unhide Hst]⟩
      case measure => simp [intOf]; omega
    · have : k = n := by omega
      subst this
      go_wp2
      go_ret
      exact ⟨rfl, rfl⟩

set_option maxHeartbeats 400000 in
theorem cloneInts_nil (w : World) :
    Calls Tryd.prog 7 #[.slice none 0 0] w fun e w' => e = .returned (.slice none 0 0) ∧ w' = w := by
  have q22 : ∀ (w : World) (a : Option Addr) (n c n' c' : Nat), (binOp .eql 23 (.slice a n c) (.slice none n' c')).run Tryd.prog w = .ok (.bool a.isNone) w := fun w a n c n' c' => Lib.run_eql_slice_nil w _ _ a n c n' c' Tryd.underlying23
  go_enter Tryd.func7, Tryd.ntmps7
  go_wp2
  go_ret
  exact ⟨rfl, rfl⟩

def CopyIPost (f : Nat → Int) (n : Nat) (w : World) (e : Ending) (w' : World) : Prop :=
  ∃ q, e = .returned (.slice q n n) ∧ SegI w' q n f ∧ Below w.heap.size w w'
theorem cloneInts_any (p : Option Addr) (n c : Nat) (f : Nat → Int) (w : World) (hn : n ≤ 1048576) (hs : SegI w p n f) (h0 : p = none → n = 0 ∧ c = 0) :
    Calls Tryd.prog 7 #[.slice p n c] w (CopyIPost f n w) := by
  cases p with
  | none =>
    obtain ⟨rfl, rfl⟩ := h0 rfl
    exact (cloneInts_nil w).mono fun e w' ⟨he, hw⟩ => ⟨none, he, fun h => absurd h (Nat.lt_irrefl 0), by rw [hw]; exact Below.refl _ _⟩
  | some a =>
    refine (cloneInts_some a n c f w hn hs).mono fun e w' ⟨he, hw⟩ => ⟨_, he, fun h => ⟨w.heap.size, 0, rfl, fun j hj => ?_⟩, ?_⟩
    · rw [hw, World.cell?_alloc_at _ _ _ _ rfl, Nat.zero_add, cloI_at f n n j hj, if_pos hj]
    · rw [hw]; exact (Below.refl _ _).alloc (Nat.le_refl _) _

end Go.Proofs.Qxb6000583aDoor
