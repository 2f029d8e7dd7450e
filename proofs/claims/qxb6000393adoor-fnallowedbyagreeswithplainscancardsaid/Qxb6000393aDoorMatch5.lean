/-
  Match as a whole: what it computes, and what that is where the pattern has no star.
-/
import Derived.Test.Qxb6000393aDoorMatch4
import Derived.Lib.IndexBytes
namespace Go.Proofs.Qxb6000393aDoor
open Go.RowKit Go.Shelf

theorem cut_len (p : List UInt8) : (Lib.cut p [42]).2.1.length ≤ p.length := by
  unfold Lib.cut
  split
  · simp
  · simp

theorem match_any (p n : List UInt8) (w : World) (hp : p.length < 4294967281) (hn : n.length < 4294967281) (hM : HasMax w) : Calls Tryd.prog 10 #[S p, S n] w (MatchPost (matchS p n) w) := by
  unfold matchS
  cases hc : (Lib.cut p [42]).2.2 with
  | false => exact match_plain p n w hp hM hc
  | true =>
    rw [if_pos rfl]
    cases hh : Lib.hasPrefix n (Lib.cut p [42]).1 with
    | false => exact match_nopre p n w hp hM hc hh
    | true =>
      have hce : Lib.cut p [42] = ((Lib.cut p [42]).1, (Lib.cut p [42]).2.1, true) := by rw [← hc]
      have hrl : (Lib.cut p [42]).2.1.length < 4294967281 := Nat.lt_of_le_of_lt (cut_len p) hp
      rw [Bool.true_and]
      unfold restM
      by_cases hi : 0 ≤ Lib.lastIndexByte ⟨(Lib.cut p [42]).2.1.toArray⟩ 42
      · obtain ⟨k, hk, hkl⟩ := last_some _ hi
        simp only [if_pos hi]
        rw [hk, Int.toNat_natCast]
        exact match_two p n _ _ _ _ _ k w hp hn hM hce hrl hh hk hkl rfl rfl rfl _ rfl _ rfl
      · have hl := last_none _ hi
        simp only [if_neg hi]
        exact match_one p n _ _ _ w hp hn hM hce hrl hh hl rfl _ rfl _ rfl

theorem matchS_plain (p n : List UInt8) (h : ¬ 0 ≤ Lib.indexByte p 42) : matchS p n = (p == n) := by
  unfold matchS
  have : (Lib.cut p [42]).2.2 = false := by
    unfold Lib.cut
    rw [if_neg (by rw [Lib.index_one]; exact h)]
  rw [this]
  rfl

end Go.Proofs.Qxb6000393aDoor
