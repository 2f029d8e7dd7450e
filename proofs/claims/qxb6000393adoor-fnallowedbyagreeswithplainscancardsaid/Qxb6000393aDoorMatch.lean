/-
  Match, walked: it computes a plain function.
-/
import Derived.RangeFuncNested
import Derived.RangeFuncBound
import Derived.RangeFuncCalls
import Derived.RangeFuncLeaves
import Derived.Shelf.Abstract
import Derived.Shelf.RegionOpen
import Derived.WalkKit
import Derived.OwnWalkIn
import Derived.TacticsInMore
import Derived.LoopNIn
import Derived.LoopIn
import Derived.Test.Qxb6000393aDoorBase
namespace Go.Proofs.Qxb6000393aDoor
open Go.RowKit Go.Shelf
attribute [local go_sem] Oper.semAt_some

/-- The runs of the middle, one after the other, each at its leftmost place. -/
def runsF : Nat → List UInt8 → List UInt8 → Bool
  | 0, _, _ => false
  | k + 1, mid, nm =>
    if Lib.index mid [42] < 0 then decide (0 ≤ Lib.index nm mid)
    else if Lib.index nm (mid.take (Lib.index mid [42]).toNat) < 0 then false
    else runsF k (mid.drop ((Lib.index mid [42]).toNat + 1)) (nm.drop ((Lib.index nm (mid.take (Lib.index mid [42]).toNat)).toNat + (mid.take (Lib.index mid [42]).toNat).length))

/-- Behind the first star. -/
def restM (rest nm : List UInt8) : Bool :=
  let i := Lib.lastIndexByte ⟨rest.toArray⟩ 42
  let middle := if 0 ≤ i then rest.take i.toNat else []
  let tail := if 0 ≤ i then rest.drop (i.toNat + 1) else rest
  Lib.hasSuffix nm tail && runsF (middle.length + 1) middle (nm.take (nm.length - tail.length))

def matchS (p n : List UInt8) : Bool :=
  if (Lib.cut p [42]).2.2 then Lib.hasPrefix n (Lib.cut p [42]).1 && restM (Lib.cut p [42]).2.1 (n.drop (Lib.cut p [42]).1.length) else p == n

def MatchPost (b : Bool) (w : World) (e : Ending) (w' : World) : Prop := e = .returned (.bool b) ∧ Below w.heap.size w w'

theorem two_cell (w : World) (n : List UInt8) (q : Nat) : (((w.alloc (.cells #[S n] 9)).alloc (.cells #[.bool false] 4)).drewN q).cell? ⟨w.heap.size + 1, 0, none⟩ = some (.bool false) := by
  have h : ((w.alloc (.cells #[S n] 9)).alloc (.cells #[.bool false] 4)).cell? ⟨w.heap.size + 1, 0, none⟩ = some (.bool false) := by
    rw [World.cell?_alloc_at _ _ _ _ (by simp)]; rfl
  exact h
theorem two_below (w : World) (n : List UInt8) (q : Nat) (v : Value) : Below w.heap.size w ((((w.alloc (.cells #[S n] 9)).alloc (.cells #[.bool false] 4)).drewN q).setCell ⟨w.heap.size + 1, 0, none⟩ v) := by
  refine ((((Below.refl _ w).alloc (Nat.le_refl _) _).alloc (by simp) _).trans ((below_drewN_any _ q).mono (by simp; omega))).setCell (by simp) _
theorem match_ret {b : Bool} {w w' : World} {t0 t1 t2 t3 : Value} {ts : List Value} (hc : w'.cell? ⟨w.heap.size + 1, 0, none⟩ = some (.bool b)) (hB : Below w.heap.size w w') :
    bodyPost Tryd.prog Tryd.f10 (MatchPost b w) Exit.ret { tmps := (t0 :: t1 :: t2 :: t3 :: .pointer (some ⟨w.heap.size + 1, 0, none⟩) :: ts).toArray, defers := [] } w' :=
  bodyPost_ret (v := .bool b) (by simp [results, Tryd.results10, go_sem, hc]) rfl ⟨rfl, hB⟩

set_option maxRecDepth 100000 in
set_option maxHeartbeats 2000000 in
/-- No star. -/
theorem match_plain (p n : List UInt8) (w : World) (hp : p.length < 4294967281) (hM : HasMax w) (hc : (Lib.cut p [42]).2.2 = false) : Calls Tryd.prog 10 #[S p, S n] w (MatchPost (p == n) w) := by
  have gS := guard_S
  have cS := cells_S
  simp only [Value.cells] at cS
  have he := eql_S p n
  have HC := hide (cut_S p ((w.alloc (.cells #[S n] 9)).alloc (.cells #[.bool false] 4)) hp (hM.below (((Below.refl _ w).alloc (Nat.le_refl _) _).alloc (by simp) _)))
  rw [hc] at HC
  clear hM hc
  go_enter Tryd.func10, Tryd.ntmps10
  go_wp2_with fail
  refine (unhide HC).mono ?_
  rintro e w1 ⟨rfl, q, hw⟩
  rw [hw]
  clear HC hw w1
  go_wp2
  exact match_ret (by rw [World.cell?_setCell_same (u := .bool false) _ _ _ (two_cell w n q)]) (two_below w n q _)

/-- The prefix is not there. -/
theorem match_nopre (p n : List UInt8) (w : World) (hp : p.length < 4294967281) (hM : HasMax w) (hc : (Lib.cut p [42]).2.2 = true) (hh : Lib.hasPrefix n (Lib.cut p [42]).1 = false) : Calls Tryd.prog 10 #[S p, S n] w (MatchPost false w) := by
  have gS := guard_S
  have cS := cells_S
  simp only [Value.cells] at cS
  have HC := hide (cut_S p ((w.alloc (.cells #[S n] 9)).alloc (.cells #[.bool false] 4)) hp (hM.below (((Below.refl _ w).alloc (Nat.le_refl _) _).alloc (by simp) _)))
  rw [hc] at HC
  have HP := hide (pre_S n (Lib.cut p [42]).1)
  rw [hh] at HP
  generalize (Lib.cut p [42]).1 = head at *
  generalize (Lib.cut p [42]).2.1 = rest at *
  clear hM hc hh
  go_enter Tryd.func10, Tryd.ntmps10
  go_wp2_with fail
  refine (unhide HC).mono ?_
  rintro e w1 ⟨rfl, q, hw⟩
  rw [hw]
  clear HC hw w1
  go_wp2_with fail
  refine (unhide HP _).mono ?_
  rintro e w1 ⟨rfl, hw⟩
  rw [hw]
  clear HP hw w1
  go_wp2
  exact match_ret (by rw [World.cell?_setCell_same (u := .bool false) _ _ _ (two_cell w n q)]) (two_below w n q _)

theorem last_some (rest : List UInt8) (h : 0 ≤ Lib.lastIndexByte ⟨rest.toArray⟩ 42) : ∃ k : Nat, Lib.lastIndexByte ⟨rest.toArray⟩ 42 = (k : Int) ∧ k < rest.length := by
  rcases Lib.lastIdx_spec ⟨rest.toArray⟩ 42 (ByteArray.mk rest.toArray).size with ⟨h1, _⟩ | ⟨i, hi, h1, _⟩
  · unfold Lib.lastIndexByte at h; omega
  · exact ⟨i, h1, hi⟩
theorem last_none (rest : List UInt8) (h : ¬ 0 ≤ Lib.lastIndexByte ⟨rest.toArray⟩ 42) : Lib.lastIndexByte ⟨rest.toArray⟩ 42 = -1 := by
  rcases Lib.lastIdx_spec ⟨rest.toArray⟩ 42 (ByteArray.mk rest.toArray).size with ⟨h1, _⟩ | ⟨i, hi, h1, _⟩
  · exact h1
  · unfold Lib.lastIndexByte at h; omega
theorem pre_len {n head : List UInt8} (h : Lib.hasPrefix n head = true) : head.length ≤ n.length := (List.isPrefixOf_iff_prefix.1 h).length_le
theorem suf_len {n tail : List UInt8} (h : Lib.hasSuffix n tail = true) : tail.length ≤ n.length := (List.isSuffixOf_iff_suffix.1 h).length_le

end Go.Proofs.Qxb6000393aDoor
