/-
  zzAppendSep, zzSameStrings, zzBytes, zzStringsSize, walked.
-/
import Derived.Test.Qxb6000766aDoorBuild
namespace Go.Proofs.Qxb6000766aDoor
open Go.RowKit

/-- A separator that zzAppendSep lays. -/
def SepOK (s : List UInt8) : Prop := s = [44, 32] ∨ s = [44] ∨ s = [32, 44, 9]

theorem grown_of_alloc {w w' : World} {o : Obj} {row : Option Nat} (h : (w.alloc o).grownBy w' row) : w.grownBy w' row := by
  have hs := h.size
  simp at hs
  refine ⟨h.1, h.2, h.3, by omega, fun k hk hne => ?_⟩
  rw [h.block k (by simp; omega) hne, Below.heap_alloc _ _ _ hk]

def SepPost (B : Nat) (l : List UInt8) (v : Value) (w : World) (e : Ending) (w' : World) : Prop :=
  ∃ v' s, e = .returned v' ∧ SepOK s ∧ Buf B (l ++ s) v' w' ∧ w.grownBy w' v.ownBlock

theorem sep_shut {B : Nat} {l s : List UInt8} {v v' : Value} {w w5 : World} {o : Obj} {m : Nat} (hs : SepOK s) (hm : s.length = m) (ho : w5.ownsRow B 5 1 v' (l.length + m) (BV l ++ BV s)) (hg : (w.alloc o).grownBy w5 v.ownBlock) : SepPost B l v w (.returned v') w5 := by
  subst hm
  exact ⟨v', s, rfl, hs, by unfold Buf; rw [BV_append, List.length_append]; exact ho, grown_of_alloc hg⟩

set_option maxRecDepth 100000 in
set_option maxHeartbeats 1000000 in
theorem sep_any (B k : Nat) (l : List UInt8) (v : Value) (w : World) (hk : k ≤ 2) (hl : l.length ≤ 100000000000000) (hB : B ≤ w.heap.size) (hb : Buf B l v w) : Calls Tryd.prog 12 #[v, .int .i64 (k : Int)] w (SepPost B l v w) := by
  obtain ⟨i5, hi5, hy0, hy1, hy2⟩ := info_parts Tryd.info5
  have Hb := hide hb
  clear hb
  match k, hk with
  | 0, _ =>
    go_enter Tryd.func12, Tryd.ntmps12
    go_wp2_with (at_builtin; (refine wpList_append_lies _ rfl (.tmp 8) (.tmp 9) 24 rfl B 5 i5 (.int .u8 0) 1 1 Tryd.underlying24 hi5 hy0 hy1 hy2 rfl (by decide) v l.length (BV l) rfl (World.ownsRow.alloc (unhide Hb) _) ⟨w.heap.size, 0, none⟩ 2 2 [.int .u8 44, .int .u8 32] rfl rfl (by exact cells_new _ [.int .u8 44, .int .u8 32] _ _ rfl) (fun u hu => by simp at hu; rcases hu with rfl | rfl <;> rfl) (by decide) (by unfold maxLen; omega) (by omega) (by simp; omega) _ rfl ?_); intro g4 cap4 w5 ho5 hg5 hgg5 hlt5; have HS := hide (sep_shut (s := [44, 32]) (.inl rfl) rfl ho5 hg5); clear ho5 hg5 hgg5 hlt5)
    go_ret
    exact unhide HS
  | 1, _ =>
    go_enter Tryd.func12, Tryd.ntmps12
    go_wp2_with (at_builtin; (refine wpList_append_lies _ rfl (.tmp 13) (.tmp 14) 24 rfl B 5 i5 (.int .u8 0) 1 1 Tryd.underlying24 hi5 hy0 hy1 hy2 rfl (by decide) v l.length (BV l) rfl (World.ownsRow.alloc (unhide Hb) _) ⟨w.heap.size, 0, none⟩ 1 1 [.int .u8 44] rfl rfl (by exact cells_new _ [.int .u8 44] _ _ rfl) (fun u hu => by simp at hu; subst hu; rfl) (by decide) (by unfold maxLen; omega) (by omega) (by simp; omega) _ rfl ?_); intro g4 cap4 w5 ho5 hg5 hgg5 hlt5; have HS := hide (sep_shut (s := [44]) (.inr (.inl rfl)) rfl ho5 hg5); clear ho5 hg5 hgg5 hlt5)
    go_ret
    exact unhide HS
  | 2, _ =>
    go_enter Tryd.func12, Tryd.ntmps12
    go_wp2_with (at_builtin; (refine wpList_append_lies _ rfl (.tmp 16) (.tmp 17) 24 rfl B 5 i5 (.int .u8 0) 1 1 Tryd.underlying24 hi5 hy0 hy1 hy2 rfl (by decide) v l.length (BV l) rfl (World.ownsRow.alloc (unhide Hb) _) ⟨w.heap.size, 0, none⟩ 3 3 [.int .u8 32, .int .u8 44, .int .u8 9] rfl rfl (by exact cells_new _ [.int .u8 32, .int .u8 44, .int .u8 9] _ _ rfl) (fun u hu => by simp at hu; rcases hu with rfl | rfl | rfl <;> rfl) (by decide) (by unfold maxLen; omega) (by omega) (by simp; omega) _ rfl ?_); intro g4 cap4 w5 ho5 hg5 hgg5 hlt5; have HS := hide (sep_shut (s := [32, 44, 9]) (.inr (.inr rfl)) rfl ho5 hg5); clear ho5 hg5 hgg5 hlt5)
    go_ret
    exact unhide HS

def SamePost (w : World) (e : Ending) (w' : World) : Prop := e = .returned (.bool true) ∧ Below w.heap.size w w'

set_option maxRecDepth 100000 in
set_option maxHeartbeats 1000000 in
theorem same_any (p q : Option Addr) (n c c' : Nat) (F : Nat → List UInt8) (w : World) (hn : n ≤ 100000000) (hp : SegV w p n (fun j => S (F j))) (hq : SegV w q n (fun j => S (F j))) : Calls Tryd.prog 14 #[.slice p n c, .slice q n c'] w (SamePost w) := by
  have gS := guard_S
  have Hp := hide hp
  have Hq := hide hq
  clear hp hq
  go_enter Tryd.func14, Tryd.ntmps14
  go_wp2
  go_loopw [5] (fun a wr => ∃ k : Nat, a = .int .i64 (k : Int) ∧ k ≤ n ∧ Below w.heap.size w wr) (fun a _ => n - (intOf a).toNat)
  case atStart => exact ⟨0, rfl, Nat.zero_le _, Below.refl _ _⟩
  case round =>
    obtain ⟨k, rfl, hk, hB⟩ := hrel
    have HB := hide hB
    clear hB
    by_cases hlt : k < n
    · obtain ⟨b, o, rfl, hc⟩ := unhide Hp (by omega)
      obtain ⟨b', o', rfl, hc'⟩ := unhide Hq (by omega)
      have hk1 := ((unhide HB).cell (p := ⟨b, o + k, none⟩) (World.block_lt_of_cell? _ _ (hc k hlt))).trans (hc k hlt)
      have hk2 := ((unhide HB).cell (p := ⟨b', o' + k, none⟩) (World.block_lt_of_cell? _ _ (hc' k hlt))).trans (hc' k hlt)
      have hne : ∀ w, (binOp .neq 9 (S (F k)) (S (F k))).run Tryd.prog w = .ok (.bool false) w := fun w => by rw [neq_S]; simp
      clear hc hc'
      go_wp2_with fail
      go_quiet (fail)
      go_wp2
      go_roundw
      case rel => exact ⟨k + 1, by go_num, by omega, (unhide HB).trans ((below_drewN_any _ _).mono (unhide HB).size)⟩
      case measure => simp [intOf]; omega
    · go_wp2
      go_ret
      exact ⟨rfl, unhide HB⟩

end Go.Proofs.Qxb6000766aDoor
