/-
  zzEqualStrings, walked. (Turned from seat 766.)
-/
import Derived.Test.Qxb6000393aDoorBase
namespace Go.Proofs.Qxb6000393aDoor
open Go.RowKit

def SamePost (w : World) (e : Ending) (w' : World) : Prop := e = .returned (.bool true) ∧ Below w.heap.size w w'

set_option maxRecDepth 100000 in
set_option maxHeartbeats 1000000 in
theorem same_any (p q : Option Addr) (n c c' : Nat) (F : Nat → List UInt8) (w : World) (hn : n ≤ 100000000) (hp : SegV w p n (fun j => S (F j))) (hq : SegV w q n (fun j => S (F j))) : Calls Tryd.prog 22 #[.slice p n c, .slice q n c'] w (SamePost w) := by
  have gS := guard_S
  have Hp := hide hp
  have Hq := hide hq
  clear hp hq
  go_enter Tryd.func22, Tryd.ntmps22
  go_wp2
  go_loopw [5] (fun a wr => ∃ k : Nat, a = .int .i64 (k : Int) ∧ k ≤ n ∧ Below w.heap.size w wr) (fun a _ => n - (intOf a).toNat)
  case atStart => exact ⟨0, rfl, Nat.zero_le _, Below.refl _ _⟩
  case round =>
    obtain ⟨k, rfl, hk, hB⟩ := hrel
    have HB := hide hB
    clear hB
    by_cases hlt : k < n
    · obtain ⟨b, o, rfl, hc⟩ := unhide Hp (by omega)
      obtain ⟨b', o', rfl, hc'⟩ := unhide Hq (by omega)
      have hk1 := ((unhide HB).cell (p := ⟨b, o + k, none⟩) (World.block_lt_of_cell? _ _ (hc k hlt))).trans (hc k hlt)
      have hk2 := ((unhide HB).cell (p := ⟨b', o' + k, none⟩) (World.block_lt_of_cell? _ _ (hc' k hlt))).trans (hc' k hlt)
      have hne : ∀ w, (binOp .neq 9 (S (F k)) (S (F k))).run Tryd.prog w = .ok (.bool false) w := fun w => by rw [neq_S]; simp
      clear hc hc'
      go_wp2_with fail
      go_quiet (fail)
      go_wp2
      go_roundw
      case rel => exact ⟨k + 1, by go_num, by omega, (unhide HB).trans ((below_drewN_any _ _).mono (unhide HB).size)⟩
      case measure => simp [intOf]; omega
    · go_wp2
      go_ret
      exact ⟨rfl, unhide HB⟩

end Go.Proofs.Qxb6000393aDoor
