/-
  Slices of values as a function of the index ('SegV'); the three copies (strings, bools, bytes), walked.
-/
import Derived.Test.Qxb6000766aDoorProg
import Derived.WalkKit
import Derived.WalkSpells
import Derived.WalkLawsBesides
import Derived.Deep.QuietTactic
import Derived.BigQuiet
import Derived.Deep.OwnRows
import Derived.Laws.CopyOwn
namespace Go.Proofs.Qxb6000766aDoor
open Go.RowKit

theorem hide {p : Prop} (h : p) : Hid p := h
theorem unhide {p : Prop} (h : Hid p) : p := h

/-- The n values at p are F 0, F 1, .. (of an empty slice nothing is said). -/
def SegV (w : World) (p : Option Addr) (n : Nat) (F : Nat → Value) : Prop :=
  0 < n → ∃ b o, p = some ⟨b, o, none⟩ ∧ ∀ j, j < n → w.cell? ⟨b, o + j, none⟩ = some (F j)
theorem SegV.zero (w : World) (p : Option Addr) (F : Nat → Value) : SegV w p 0 F := fun h => absurd h (Nat.lt_irrefl 0)
theorem SegV.below {w w' : World} {p : Option Addr} {n : Nat} {F : Nat → Value} (h : SegV w p n F) (hB : Below w.heap.size w w') : SegV w' p n F := fun h0 => by
  obtain ⟨b, o, rfl, hc⟩ := h h0
  exact ⟨b, o, rfl, fun i hi => by rw [hB.cell (p := ⟨b, o + i, none⟩) (World.block_lt_of_cell? _ _ (hc i hi))]; exact hc i hi⟩

theorem below_drewN_any (w : World) (q : Nat) : Below w.heap.size w (w.drewN q) := ⟨rfl, rfl, rfl, Nat.le_refl _, fun _ _ => rfl⟩

theorem add_pl (b o j : Nat) : (⟨b, o, none⟩ : Addr).add j = ⟨b, o + j, none⟩ := by unfold Addr.add; split <;> simp_all

/-- The copied cells. -/
def copied (F : Nat → Value) (n : Nat) : List Value := (List.range n).map F
theorem copied_length (F : Nat → Value) (n : Nat) : (copied F n).length = n := by simp [copied]
theorem copied_at (F : Nat → Value) (n j : Nat) (h : j < n) : (copied F n)[j]? = some (F j) := by simp [copied, h]

def CopyPost (F : Nat → Value) (n : Nat) (w : World) (e : Ending) (w' : World) : Prop :=
  ∃ q, e = .returned (.slice q n n) ∧ SegV w' q n F ∧ Below w.heap.size w w'

theorem Tryd.info9 : (Tryd.prog.info? 9).map (fun i => (i.zero, i.size, i.bytes)) = some (some (.string ⟨#[]⟩), 1, 16) := by kernel_rfl
theorem Tryd.info4 : (Tryd.prog.info? 4).map (fun i => (i.zero, i.size, i.bytes)) = some (some (.bool false), 1, 1) := by kernel_rfl
theorem Tryd.info5 : (Tryd.prog.info? 5).map (fun i => (i.zero, i.size, i.bytes)) = some (some (.int .u8 0), 1, 1) := by kernel_rfl

/-- make, then copy, outside the walk. -/
theorem copy_run (T E : TypeId) (hu : Tryd.prog.underlying T = some (.slice E)) (hsz : (Tryd.prog.info? E).map (·.size) = some 1) (w : World) (a : Addr) (n c : Nat) (F : Nat → Value) (z : Value) (hs : SegV w (some a) n F) (h1 : ∀ j, j < n → (F j).oneCell' = true) :
    ∃ W2, (Builtin.copy_ #[T, T] 3 #[.slice (some ⟨w.heap.size, 0, none⟩) n n, .slice (some a) n c]).run Tryd.prog (w.alloc (.cells (madeCells #[z] n) E)) = .ok (.int .i64 (n : Int)) W2 ∧ SegV W2 (some ⟨w.heap.size, 0, none⟩) n F ∧ Below w.heap.size w W2 := by
  have hB0 : Below w.heap.size w (w.alloc (.cells (madeCells #[z] n) E)) := (Below.refl _ w).alloc (Nat.le_refl _) _
  by_cases h0 : n = 0
  · subst h0
    refine ⟨_, run_copy_none (P := Tryd.prog) (w.alloc (.cells (madeCells #[z] 0) E)) T T 3 E (some ⟨w.heap.size, 0, none⟩) (some a) 0 0 0 c hu hsz rfl, SegV.zero _ _ _, hB0⟩
  · obtain ⟨b, o, e, hc⟩ := hs (by omega)
    cases e
    have hnew : (w.alloc (.cells (madeCells #[z] n) E)).heap[w.heap.size]? = some (.cells (madeCells #[z] n) E (0, 0)) := heap_alloc_new w _
    have hr := run_copy_row (P := Tryd.prog) (w.alloc (.cells (madeCells #[z] n) E)) T T 3 E w.heap.size 0 n n ⟨b, o, none⟩ n c (madeCells #[z] n) E (copied F n) hu hsz hnew (by rw [copied_length]; exact (Nat.min_self n).symm) (fun j v hj => by
        have hjn : j < n := by
          rcases Nat.lt_or_ge j n with h | h
          · exact h
          · rw [List.getElem?_eq_none (by rw [copied_length]; exact h)] at hj; cases hj
        rw [copied_at F n j hjn] at hj
        cases hj
        have hck := hc j hjn
        rw [add_pl, hB0.cell (p := ⟨b, o + j, none⟩) (World.block_lt_of_cell? _ _ hck)]
        exact hck) (by rw [copied_length, size_madeCells]; omega) (fun v hv => by
        obtain ⟨j, hj, rfl⟩ := List.mem_map.1 hv
        exact h1 j (List.mem_range.1 hj))
    have hs : (madeCells #[z] n).toList.take 0 ++ copied F n ++ (madeCells #[z] n).toList.drop n = copied F n := by
      rw [List.take_zero, List.nil_append, List.drop_of_length_le (by rw [Array.length_toList, size_madeCells]; exact Nat.le_refl _), List.append_nil]
    rw [copied_length, Nat.zero_add, hs] at hr
    refine ⟨_, hr, fun _ => ⟨w.heap.size, 0, rfl, fun j hj => ?_⟩, below_setRow hB0 (Nat.le_refl _) _⟩
    rw [Nat.zero_add, World.cell?]
    simp only [setRow_heap _ _ _ _ _ _ hnew]
    have := copied_at F n j hj
    simpa using this

set_option maxHeartbeats 400000 in
theorem cloneS_some (a : Addr) (n c : Nat) (F : Nat → Value) (w : World) (hn : n ≤ 1048576) (hs : SegV w (some a) n F) (h1 : ∀ j, j < n → (F j).oneCell' = true) :
    Calls Tryd.prog 8 #[.slice (some a) n c] w (CopyPost F n w) := by
  have q22 : ∀ (w : World) (a : Option Addr) (n c n' c' : Nat), (binOp .eql 22 (.slice a n c) (.slice none n' c')).run Tryd.prog w = .ok (.bool a.isNone) w := fun w a n c n' c' => Lib.run_eql_slice_nil w _ _ a n c n' c' Tryd.underlying22
  have hmk : ∀ w : World, (Instr.makeSlice 22 (.int .i64 (n : Int)) (.int .i64 (n : Int))).run Tryd.prog w = .ok (.slice (some ⟨w.heap.size, 0, none⟩) n n) (w.alloc (.cells (madeCells #[.string ⟨#[]⟩] n) 9)) := fun w =>
    run_make_row' 22 9 (.string ⟨#[]⟩) 16 Tryd.underlying22 Tryd.info9 rfl .i64 .i64 n (by omega) (by omega) w
  obtain ⟨W2, hcp, he⟩ := copy_run 22 9 Tryd.underlying22 (by kernel_rfl) w a n c F (.string ⟨#[]⟩) hs h1
  have HE := hide he
  clear hs h1 he
  go_enter Tryd.func8, Tryd.ntmps8
  go_wp2
  go_ret
  exact ⟨_, rfl, unhide HE⟩

set_option maxHeartbeats 400000 in
theorem cloneS_nil (w : World) :
    Calls Tryd.prog 8 #[.slice none 0 0] w fun e w' => e = .returned (.slice none 0 0) ∧ w' = w := by
  have q22 : ∀ (w : World) (a : Option Addr) (n c n' c' : Nat), (binOp .eql 22 (.slice a n c) (.slice none n' c')).run Tryd.prog w = .ok (.bool a.isNone) w := fun w a n c n' c' => Lib.run_eql_slice_nil w _ _ a n c n' c' Tryd.underlying22
  go_enter Tryd.func8, Tryd.ntmps8
  go_wp2
  go_ret
  exact ⟨rfl, rfl⟩

theorem cloneS_any (p : Option Addr) (n c : Nat) (F : Nat → Value) (w : World) (hn : n ≤ 1048576) (hs : SegV w p n F) (h1 : ∀ j, j < n → (F j).oneCell' = true) (h0 : p = none → n = 0 ∧ c = 0) :
    Calls Tryd.prog 8 #[.slice p n c] w (CopyPost F n w) := by
  cases p with
  | none =>
    obtain ⟨rfl, rfl⟩ := h0 rfl
    exact (cloneS_nil w).mono fun e w' ⟨he, hw⟩ => ⟨none, he, SegV.zero _ _ _, by rw [hw]; exact Below.refl _ _⟩
  | some a => exact cloneS_some a n c F w hn hs h1

set_option maxHeartbeats 400000 in
theorem cloneB_some (a : Addr) (n c : Nat) (F : Nat → Value) (w : World) (hn : n ≤ 1048576) (hs : SegV w (some a) n F) (h1 : ∀ j, j < n → (F j).oneCell' = true) :
    Calls Tryd.prog 9 #[.slice (some a) n c] w (CopyPost F n w) := by
  have q22 : ∀ (w : World) (a : Option Addr) (n c n' c' : Nat), (binOp .eql 23 (.slice a n c) (.slice none n' c')).run Tryd.prog w = .ok (.bool a.isNone) w := fun w a n c n' c' => Lib.run_eql_slice_nil w _ _ a n c n' c' Tryd.underlying23
  have hmk : ∀ w : World, (Instr.makeSlice 23 (.int .i64 (n : Int)) (.int .i64 (n : Int))).run Tryd.prog w = .ok (.slice (some ⟨w.heap.size, 0, none⟩) n n) (w.alloc (.cells (madeCells #[.bool false] n) 4)) := fun w =>
    run_make_row' 23 4 (.bool false) 1 Tryd.underlying23 Tryd.info4 rfl .i64 .i64 n (by omega) (by omega) w
  obtain ⟨W2, hcp, he⟩ := copy_run 23 4 Tryd.underlying23 (by kernel_rfl) w a n c F (.bool false) hs h1
  have HE := hide he
  clear hs h1 he
  go_enter Tryd.func9, Tryd.ntmps9
  go_wp2
  go_ret
  exact ⟨_, rfl, unhide HE⟩

set_option maxHeartbeats 400000 in
theorem cloneB_nil (w : World) :
    Calls Tryd.prog 9 #[.slice none 0 0] w fun e w' => e = .returned (.slice none 0 0) ∧ w' = w := by
  have q22 : ∀ (w : World) (a : Option Addr) (n c n' c' : Nat), (binOp .eql 23 (.slice a n c) (.slice none n' c')).run Tryd.prog w = .ok (.bool a.isNone) w := fun w a n c n' c' => Lib.run_eql_slice_nil w _ _ a n c n' c' Tryd.underlying23
  go_enter Tryd.func9, Tryd.ntmps9
  go_wp2
  go_ret
  exact ⟨rfl, rfl⟩

theorem cloneB_any (p : Option Addr) (n c : Nat) (F : Nat → Value) (w : World) (hn : n ≤ 1048576) (hs : SegV w p n F) (h1 : ∀ j, j < n → (F j).oneCell' = true) (h0 : p = none → n = 0 ∧ c = 0) :
    Calls Tryd.prog 9 #[.slice p n c] w (CopyPost F n w) := by
  cases p with
  | none =>
    obtain ⟨rfl, rfl⟩ := h0 rfl
    exact (cloneB_nil w).mono fun e w' ⟨he, hw⟩ => ⟨none, he, SegV.zero _ _ _, by rw [hw]; exact Below.refl _ _⟩
  | some a => exact cloneB_some a n c F w hn hs h1

set_option maxHeartbeats 400000 in
theorem cloneY_some (a : Addr) (n c : Nat) (F : Nat → Value) (w : World) (hn : n ≤ 1048576) (hs : SegV w (some a) n F) (h1 : ∀ j, j < n → (F j).oneCell' = true) :
    Calls Tryd.prog 10 #[.slice (some a) n c] w (CopyPost F n w) := by
  have q22 : ∀ (w : World) (a : Option Addr) (n c n' c' : Nat), (binOp .eql 24 (.slice a n c) (.slice none n' c')).run Tryd.prog w = .ok (.bool a.isNone) w := fun w a n c n' c' => Lib.run_eql_slice_nil w _ _ a n c n' c' Tryd.underlying24
  have hmk : ∀ w : World, (Instr.makeSlice 24 (.int .i64 (n : Int)) (.int .i64 (n : Int))).run Tryd.prog w = .ok (.slice (some ⟨w.heap.size, 0, none⟩) n n) (w.alloc (.cells (madeCells #[.int .u8 0] n) 5)) := fun w =>
    run_make_row' 24 5 (.int .u8 0) 1 Tryd.underlying24 Tryd.info5 rfl .i64 .i64 n (by omega) (by omega) w
  obtain ⟨W2, hcp, he⟩ := copy_run 24 5 Tryd.underlying24 (by kernel_rfl) w a n c F (.int .u8 0) hs h1
  have HE := hide he
  clear hs h1 he
  go_enter Tryd.func10, Tryd.ntmps10
  go_wp2
  go_ret
  exact ⟨_, rfl, unhide HE⟩

set_option maxHeartbeats 400000 in
theorem cloneY_nil (w : World) :
    Calls Tryd.prog 10 #[.slice none 0 0] w fun e w' => e = .returned (.slice none 0 0) ∧ w' = w := by
  have q22 : ∀ (w : World) (a : Option Addr) (n c n' c' : Nat), (binOp .eql 24 (.slice a n c) (.slice none n' c')).run Tryd.prog w = .ok (.bool a.isNone) w := fun w a n c n' c' => Lib.run_eql_slice_nil w _ _ a n c n' c' Tryd.underlying24
  go_enter Tryd.func10, Tryd.ntmps10
  go_wp2
  go_ret
  exact ⟨rfl, rfl⟩

theorem cloneY_any (p : Option Addr) (n c : Nat) (F : Nat → Value) (w : World) (hn : n ≤ 1048576) (hs : SegV w p n F) (h1 : ∀ j, j < n → (F j).oneCell' = true) (h0 : p = none → n = 0 ∧ c = 0) :
    Calls Tryd.prog 10 #[.slice p n c] w (CopyPost F n w) := by
  cases p with
  | none =>
    obtain ⟨rfl, rfl⟩ := h0 rfl
    exact (cloneY_nil w).mono fun e w' ⟨he, hw⟩ => ⟨none, he, SegV.zero _ _ _, by rw [hw]; exact Below.refl _ _⟩
  | some a => exact cloneY_some a n c F w hn hs h1

end Go.Proofs.Qxb6000766aDoor
