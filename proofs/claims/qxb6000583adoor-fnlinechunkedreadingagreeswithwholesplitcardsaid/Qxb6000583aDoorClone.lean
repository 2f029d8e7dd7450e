/-
  cloneBytes, walked.
-/
import Derived.Test.Qxb6000583aDoorProg
import Derived.Test.Qxb6000583aDoorSeg
import Derived.WalkKit
import Derived.WalkSpells
import Derived.WalkLawsBesides
import Derived.Deep.OwnRows
namespace Go.Proofs.Qxb6000583aDoor
open Go.RowKit

/-- The copy behind k rounds. -/
def clo (f : Nat → Int) (n k : Nat) : Array Value := ((List.range n).map fun j => Value.int .u8 (if j < k then f j else 0)).toArray
theorem clo_size (f : Nat → Int) (n k : Nat) : (clo f n k).size = n := by simp [clo]
theorem clo_at (f : Nat → Int) (n k j : Nat) (h : j < n) : (clo f n k)[j]? = some (.int .u8 (if j < k then f j else 0)) := by
  simp [clo, h]
theorem clo_zero (f : Nat → Int) (n : Nat) : madeCells #[.int .u8 0] n = clo f n 0 := by
  apply Array.ext_getElem?
  intro i
  by_cases h : i < n
  · rw [clo_at f n 0 i h]; simp [madeCells, h, Nat.mod_one]
  · rw [Array.getElem?_eq_none (by rw [size_madeCells]; omega), Array.getElem?_eq_none (by rw [clo_size]; omega)]
theorem clo_step (f : Nat → Int) (n k : Nat) (h : k < n) : (clo f n k).setIfInBounds k (.int .u8 (f k)) = clo f n (k + 1) := by
  apply Array.ext_getElem?
  intro i
  by_cases hi : i < n
  · rw [clo_at f n (k + 1) i hi, Array.getElem?_setIfInBounds]
    by_cases e : k = i
    · subst e; simp [clo_size, h]
    · rw [if_neg e, clo_at f n k i hi]
      by_cases h2 : i < k
      · rw [if_pos h2, if_pos (by omega)]
      · rw [if_neg h2, if_neg (by omega)]
  · rw [Array.getElem?_eq_none (by rw [Array.size_setIfInBounds, clo_size]; omega), Array.getElem?_eq_none (by rw [clo_size]; omega)]

theorem Tryd.info5 : (Tryd.prog.info? 5).map (fun i => (i.zero, i.size, i.bytes)) = some (some (.int .u8 0), 1, 1) := by kernel_rfl

def ClonePost (f : Nat → Int) (n : Nat) (w : World) (e : Ending) (w' : World) : Prop :=
  e = .returned (.slice (some ⟨w.heap.size, 0, none⟩) n n) ∧ w' = w.alloc (.cells (clo f n n) 5)

set_option maxHeartbeats 400000 in
theorem cloneBytes_some (a : Addr) (n c : Nat) (f : Nat → Int) (w : World) (hn : n ≤ 1048576) (hs : Seg w (some a) n f) :
    Calls Tryd.prog 6 #[.slice (some a) n c] w (ClonePost f n w) := by
  have hmk : ∀ w : World, (Instr.makeSlice 22 (.int .i64 (n : Int)) (.int .i64 (n : Int))).run Tryd.prog w = .ok (.slice (some ⟨w.heap.size, 0, none⟩) n n) (w.alloc (.cells (clo f n 0) 5)) := fun w => by
    rw [run_make_row' 22 5 (.int .u8 0) 1 Tryd.underlying22 Tryd.info5 rfl .i64 .i64 n (by omega) (by omega) w, clo_zero f n]
  have q22 : ∀ (w : World) (a : Option Addr) (n c n' c' : Nat), (binOp .eql 22 (.slice a n c) (.slice none n' c')).run Tryd.prog w = .ok (.bool a.isNone) w := fun w a n c n' c' => Lib.run_eql_slice_nil w _ _ a n c n' c' Tryd.underlying22
  go_enter Tryd.func6, Tryd.ntmps6
  go_wp2
  go_loopw [4] (fun i wr => ∃ k : Nat, k ≤ n ∧ i = .int .i64 k ∧ wr = w.alloc (.cells (clo f n k) 5)) (fun i _ => n - (intOf i).toNat)
  case atStart => exact ⟨0, Nat.zero_le _, rfl, rfl⟩
  case round =>
    obtain ⟨k, hk, rfl, rfl⟩ := hrel
    by_cases hlt : k < n
    · obtain ⟨b, o, e, hc⟩ := hs (by omega)
      cases e
      have hck := hc k hlt
      have hb := World.block_lt_of_cell? _ _ hck
      simp only at hb
      clear hc hs hmk
      have hca := clo_at f n k k hlt
      have Hst := hide (clo_step f n k hlt)
      go_wp2
      go_roundw
      case rel => exact ⟨k + 1, by omega, by go_num, by rw [← unhide Hst]⟩
      case measure => simp [intOf]; omega
    · have : k = n := by omega
      subst this
      go_wp2
      go_ret
      exact ⟨rfl, rfl⟩

set_option maxHeartbeats 400000 in
theorem cloneBytes_nil (w : World) :
    Calls Tryd.prog 6 #[.slice none 0 0] w fun e w' => e = .returned (.slice none 0 0) ∧ w' = w := by
  have q22 : ∀ (w : World) (a : Option Addr) (n c n' c' : Nat), (binOp .eql 22 (.slice a n c) (.slice none n' c')).run Tryd.prog w = .ok (.bool a.isNone) w := fun w a n c n' c' => Lib.run_eql_slice_nil w _ _ a n c n' c' Tryd.underlying22
  go_enter Tryd.func6, Tryd.ntmps6
  go_wp2
  go_ret
  exact ⟨rfl, rfl⟩

end Go.Proofs.Qxb6000583aDoor
