/-
  zzCopyStrings, walked.
-/
import Derived.Test.Qxb6000393aDoorCov
import Derived.Deep.AppendLies
import Derived.Laws.Rows
namespace Go.Proofs.Qxb6000393aDoor
open Go.RowKit

/-- The copy behind k rounds. -/
def cloS (L : List (List UInt8)) (k : Nat) : Array Value := ((List.range L.length).map fun j => S (if j < k then L[j]?.getD [] else [])).toArray
theorem cloS_size (L : List (List UInt8)) (k : Nat) : (cloS L k).size = L.length := by simp [cloS]
theorem cloS_at (L : List (List UInt8)) (k j : Nat) (h : j < L.length) : (cloS L k)[j]? = some (S (if j < k then L[j]?.getD [] else [])) := by
  simp [cloS, h]
theorem cloS_zero (L : List (List UInt8)) : madeCells #[S []] L.length = cloS L 0 := by
  apply Array.ext_getElem?
  intro i
  by_cases h : i < L.length
  · rw [cloS_at L 0 i h]; simp [madeCells, h, Nat.mod_one]
  · rw [Array.getElem?_eq_none (by rw [size_madeCells]; omega), Array.getElem?_eq_none (by rw [cloS_size]; omega)]
theorem cloS_step (L : List (List UInt8)) (k : Nat) (h : k < L.length) : (cloS L k).setIfInBounds k (S (L[k]?.getD [])) = cloS L (k + 1) := by
  apply Array.ext_getElem?
  intro i
  by_cases hi : i < L.length
  · rw [cloS_at L (k + 1) i hi, Array.getElem?_setIfInBounds]
    by_cases e : k = i
    · subst e; simp [cloS_size, h]
    · rw [if_neg e, cloS_at L k i hi]
      by_cases h2 : i < k
      · rw [if_pos h2, if_pos (by omega)]
      · rw [if_neg h2, if_neg (by omega)]
  · rw [Array.getElem?_eq_none (by rw [Array.size_setIfInBounds, cloS_size]; omega), Array.getElem?_eq_none (by rw [cloS_size]; omega)]

theorem Tryd.info9 : (Tryd.prog.info? 9).map (fun i => (i.zero, i.size, i.bytes)) = some (some (S []), 1, 16) := by kernel_rfl

/-- The strings L lie at the start of a block of strings, which meets I. -/
def StrsB (I : Nat → Prop) (w : World) (v : Value) (L : List (List UInt8)) : Prop := ∃ p c, v = .slice p L.length c ∧ (0 < L.length → ∃ (b : Nat) (cs : Array Value), I b ∧ p = some ⟨b, 0, none⟩ ∧ w.heap[b]? = some (.cells cs 9 (0, 0)) ∧ ∀ j, j < L.length → cs[j]? = some (S (L[j]?.getD [])))
theorem StrsB.strs {I : Nat → Prop} {w : World} {v : Value} {L : List (List UInt8)} (h : StrsB I w v L) : Strs w v L := by
  obtain ⟨p, c, h1, h2⟩ := h
  exact ⟨p, c, h1, fun h0 => let ⟨b, cs, _, h3, h4, h5⟩ := h2 h0; ⟨b, 0, h3, fun j hj => by rw [cell_of_row _ _ _ _ _ _ h4, Nat.zero_add]; exact h5 j hj⟩⟩
theorem StrsB.le {I I' : Nat → Prop} {w : World} {v : Value} {L : List (List UInt8)} (h : StrsB I w v L) (hl : ∀ b, b < w.heap.size → I b → I' b) : StrsB I' w v L := by
  obtain ⟨p, c, h1, h2⟩ := h
  exact ⟨p, c, h1, fun h0 => let ⟨b, cs, h5, h3, h4, h6⟩ := h2 h0; ⟨b, cs, hl b (Array.getElem?_eq_some_iff.1 h4).1 h5, h3, h4, h6⟩⟩
theorem StrsB.keep {I : Nat → Prop} {w w' : World} {v : Value} {L : List (List UInt8)} (h : StrsB I w v L) (hk : ∀ b cs, I b → w.heap[b]? = some (.cells cs 9 (0, 0)) → w'.heap[b]? = w.heap[b]?) : StrsB I w' v L := by
  obtain ⟨p, c, h1, h2⟩ := h
  refine ⟨p, c, h1, fun h0 => ?_⟩
  obtain ⟨b, cs, h5, h3, h4, h6⟩ := h2 h0
  exact ⟨b, cs, h5, h3, by rw [hk b cs h5 h4]; exact h4, h6⟩
theorem StrsB.below {I : Nat → Prop} {w w' : World} {v : Value} {L : List (List UInt8)} (h : StrsB I w v L) (hB : Below w.heap.size w w') : StrsB I w' v L := h.keep fun b _ _ h2 => hB.block b (Array.getElem?_eq_some_iff.1 h2).1

def CopyPost (L : List (List UInt8)) (w : World) (e : Ending) (w' : World) : Prop := ∃ p c, e = .returned (.slice p L.length c) ∧ StrsB (w.heap.size ≤ ·) w' (.slice p L.length c) L ∧ Below w.heap.size w w'

set_option maxRecDepth 100000 in
set_option maxHeartbeats 1000000 in
theorem copy18_some (a : Addr) (c : Nat) (L : List (List UInt8)) (w : World) (hn : L.length ≤ 100000000) (hs : SegV w (some a) L.length (fun j => S (L[j]?.getD []))) :
    Calls Tryd.prog 18 #[.slice (some a) L.length c] w (CopyPost L w) := by
  have hmk : ∀ w : World, (Instr.makeSlice 27 (.int .i64 (L.length : Int)) (.int .i64 (L.length : Int))).run Tryd.prog w = .ok (.slice (some ⟨w.heap.size, 0, none⟩) L.length L.length) (w.alloc (.cells (cloS L 0) 9)) := fun w => by
    rw [run_make_row' 27 9 (S []) 16 Tryd.underlying27 Tryd.info9 rfl .i64 .i64 L.length (by omega) (by omega) w, cloS_zero L]
  have q22 : ∀ (w : World) (a : Option Addr) (n c n' c' : Nat), (binOp .eql 27 (.slice a n c) (.slice none n' c')).run Tryd.prog w = .ok (.bool a.isNone) w := fun w a n c n' c' => Lib.run_eql_slice_nil w _ _ a n c n' c' Tryd.underlying27
  have cS := cells_S
  simp only [Value.cells] at cS
  have stS := store_S
  generalize hN : L.length = n at *
  go_enter Tryd.func18, Tryd.ntmps18
  go_wp2
  go_loopw [4] (fun i wr => ∃ k : Nat, k ≤ n ∧ i = .int .i64 k ∧ wr = w.alloc (.cells (cloS L k) 9)) (fun i _ => n - (intOf i).toNat)
  case atStart => exact ⟨0, Nat.zero_le _, rfl, rfl⟩
  case round =>
    obtain ⟨k, hk, rfl, rfl⟩ := hrel
    by_cases hlt : k < n
    · obtain ⟨b, o, e, hc⟩ := hs (by omega)
      cases e
      have hck := hc k hlt
      have hb := World.block_lt_of_cell? _ _ hck
      simp only at hb
      clear hc hs hmk
      have hca := cloS_at L k k (by omega)
      have Hst := hide (cloS_step L k (by omega))
      dsimp only at hck
      generalize L[k]?.getD [] = x at hck Hst
      rw [if_neg (Nat.lt_irrefl k)] at hca
      go_wp2
      go_roundw
      case rel => exact ⟨k + 1, by omega, by go_num, by rw [← unhide Hst]⟩
      case measure => simp [intOf]; omega
    · have : k = n := by omega
      subst this
      go_wp2
      go_ret
      refine ⟨some ⟨w.heap.size, 0, none⟩, L.length, by subst hN; rfl, ⟨_, _, rfl, fun h => ⟨w.heap.size, _, Nat.le_refl _, rfl, heap_alloc_new w _, fun j hj => ?_⟩⟩, (Below.refl _ _).alloc (Nat.le_refl _) _⟩
      rw [cloS_at L _ j hj, if_pos (by omega)]

set_option maxHeartbeats 400000 in
theorem copy18_nil (n c : Nat) (w : World) : Calls Tryd.prog 18 #[.slice none n c] w fun e w' => e = .returned (.slice none 0 0) ∧ w' = w := by
  have q22 : ∀ (w : World) (a : Option Addr) (n c n' c' : Nat), (binOp .eql 27 (.slice a n c) (.slice none n' c')).run Tryd.prog w = .ok (.bool a.isNone) w := fun w a n c n' c' => Lib.run_eql_slice_nil w _ _ a n c n' c' Tryd.underlying27
  go_enter Tryd.func18, Tryd.ntmps18
  go_wp2
  go_ret
  exact ⟨rfl, rfl⟩

/-- zzCopyStrings. -/
theorem copy18 (v : Value) (L : List (List UInt8)) (w : World) (hn : L.length ≤ 100000000) (hs : Strs w v L) : Calls Tryd.prog 18 #[v] w (CopyPost L w) := by
  obtain ⟨p, c, rfl, hs⟩ := hs
  cases p with
  | some a => exact copy18_some a c L w hn hs
  | none =>
    have h0 : L = [] := by
      cases L with
      | nil => rfl
      | cons x xs => obtain ⟨b, o, h, _⟩ := hs (by simp); cases h
    subst h0
    exact (copy18_nil 0 c w).mono fun e w' ⟨he, hw⟩ => ⟨none, 0, he, ⟨none, 0, rfl, fun h => absurd h (Nat.lt_irrefl 0)⟩, by rw [hw]; exact Below.refl _ _⟩

end Go.Proofs.Qxb6000393aDoor
