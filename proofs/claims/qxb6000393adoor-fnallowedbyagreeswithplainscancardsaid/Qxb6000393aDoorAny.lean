/-
  matchesAny and zzAnyMatch, walked.
-/
import Derived.Test.Qxb6000393aDoorMatch5
namespace Go.Proofs.Qxb6000393aDoor
open Go.RowKit

/-- Some of the first n patterns matches the name. -/
def anyM (F : Nat → List UInt8) (n : Nat) (nm : List UInt8) : Bool := (List.range n).any fun j => matchS (F j) nm
theorem anyM_true {F : Nat → List UInt8} {n : Nat} {nm : List UInt8} (j : Nat) (hj : j < n) (h : matchS (F j) nm = true) : anyM F n nm = true := List.any_eq_true.2 ⟨j, List.mem_range.2 hj, h⟩
theorem anyM_false {F : Nat → List UInt8} {n : Nat} {nm : List UInt8} (h : ∀ j, j < n → matchS (F j) nm = false) : anyM F n nm = false := by
  rw [anyM, List.any_eq_false]
  intro j hj
  rw [h j (List.mem_range.1 hj)]
  simp

set_option maxRecDepth 100000 in
theorem clos44 (p nm : List UInt8) (b : Nat) (w : World) (hp : p.length < 4294967281) (hn : nm.length < 4294967281) (hM : HasMax w) (hc : w.cell? ⟨b, 0, none⟩ = some (S nm)) : Calls Tryd.prog 44 #[S p, .pointer (some ⟨b, 0, none⟩)] w (MatchPost (matchS p nm) w) := by
  have HC := hide (match_any p nm w hp hn hM)
  clear hp hn hM
  go_enter Tryd.func44, Tryd.ntmps44
  go_wp2_with fail
  refine (unhide HC).mono ?_
  rintro e w1 ⟨rfl, hB⟩
  have HB := hide hB
  clear hB HC
  go_wp2
  go_ret
  exact ⟨rfl, unhide HB⟩

def IdxPost (b : Bool) (w : World) (e : Ending) (w' : World) : Prop := ∃ i : Int, e = .returned (.int .i64 i) ∧ ((b = true ∧ ∃ k : Nat, i = (k : Int)) ∨ (b = false ∧ i = -1)) ∧ Below w.heap.size w w'

set_option maxRecDepth 100000 in
set_option maxHeartbeats 1000000 in
theorem idxf53 (q : Option Addr) (n c b : Nat) (F : Nat → List UInt8) (nm : List UInt8) (w : World) (hn : n ≤ 100000000) (hnm : nm.length < 4294967281) (hF : ∀ j, j < n → (F j).length < 4294967281) (hM : HasMax w) (hseg : SegV w q n (fun j => S (F j))) (hc : w.cell? ⟨b, 0, none⟩ = some (S nm)) :
    Calls Tryd.prog 53 #[.slice q n c, .func (.func 44) #[] #[.pointer (some ⟨b, 0, none⟩)]] w (IdxPost (anyM F n nm) w) := by
  have Hseg := hide hseg
  have HF := hide hF
  have HM := hide hM
  have Hc := hide hc
  clear hseg hF hM hc
  go_enter Tryd.func53, Tryd.ntmps53
  go_wp2
  go_loopw [8] (fun a wr => ∃ k : Nat, a = .int .i64 (k : Int) ∧ k ≤ n ∧ (∀ j, j < k → matchS (F j) nm = false) ∧ Below w.heap.size w wr) (fun a _ => n - (intOf a).toNat)
  case atStart => exact ⟨0, rfl, Nat.zero_le _, fun j h => absurd h (Nat.not_lt_zero j), Below.refl _ _⟩
  case round =>
    obtain ⟨k, rfl, hk, hno, hB⟩ := hrel
    by_cases hlt : k < n
    · obtain ⟨b1, o1, rfl, hcs⟩ := unhide Hseg (by omega)
      have hck := (hB.cell (p := ⟨b1, o1 + k, none⟩) (World.block_lt_of_cell? _ _ (hcs k hlt))).trans (hcs k hlt)
      have hcb := (hB.cell (p := ⟨b, 0, none⟩) (World.block_lt_of_cell? _ _ (unhide Hc))).trans (unhide Hc)
      have HC := hide (clos44 (F k) nm b wr (unhide HF k hlt) hnm ((unhide HM).below hB) hcb)
      have Hno := hide hno
      have HB := hide hB
      clear hcs hcb hno hB
      cases hm : matchS (F k) nm with
      | true =>
        rw [hm] at HC
        have HA := hide (anyM_true (F := F) k hlt hm)
        clear hm
        go_wp2_with (go_at_call 44; refine (unhide HC).mono ?_; rintro e w1 ⟨rfl, hB1⟩; have HB1 := hide hB1; clear hB1 HC)
        go_ret
        exact ⟨_, rfl, .inl ⟨unhide HA, k, rfl⟩, (unhide HB).trans ((unhide HB1).mono (unhide HB).size)⟩
      | false =>
        rw [hm] at HC
        have Hm := hide hm
        clear hm
        go_wp2_with (go_at_call 44; refine (unhide HC).mono ?_; rintro e w1 ⟨rfl, hB1⟩; have HB1 := hide hB1; clear hB1 HC)
        go_roundw
        case rel => exact ⟨k + 1, by go_num, by omega, fun j hj => (by
          by_cases e : j = k
          · rw [e]; exact unhide Hm
          · exact unhide Hno j (by omega)), (unhide HB).trans ((unhide HB1).mono (unhide HB).size)⟩
        case measure => simp [intOf]; omega
    · obtain rfl : k = n := by omega
      have HA := hide (anyM_false hno)
      have HB := hide hB
      clear hno hB
      go_wp2
      go_ret
      exact ⟨_, rfl, .inr ⟨unhide HA, rfl⟩, unhide HB⟩

set_option maxRecDepth 100000 in
theorem cont43 (q : Option Addr) (n c b : Nat) (F : Nat → List UInt8) (nm : List UInt8) (w : World) (hn : n ≤ 100000000) (hnm : nm.length < 4294967281) (hF : ∀ j, j < n → (F j).length < 4294967281) (hM : HasMax w) (hseg : SegV w q n (fun j => S (F j))) (hc : w.cell? ⟨b, 0, none⟩ = some (S nm)) :
    Calls Tryd.prog 43 #[.slice q n c, .func (.func 44) #[] #[.pointer (some ⟨b, 0, none⟩)]] w (MatchPost (anyM F n nm) w) := by
  have HC := hide (idxf53 q n c b F nm w hn hnm hF hM hseg hc)
  clear hn hnm hF hM hseg hc
  go_enter Tryd.func43, Tryd.ntmps43
  go_wp2_with fail
  refine (unhide HC).mono ?_
  rintro e w1 ⟨i, rfl, h, hB⟩
  have HB := hide hB
  clear hB HC
  rcases h with ⟨h1, k, rfl⟩ | ⟨h1, rfl⟩
  · have H1 := hide h1
    clear h1
    go_wp2
    go_ret
    exact ⟨by rw [unhide H1]; rfl, unhide HB⟩
  · have H1 := hide h1
    clear h1
    go_wp2
    go_ret
    exact ⟨by rw [unhide H1]; rfl, unhide HB⟩

set_option maxRecDepth 100000 in
/-- matchesAny. -/
theorem matches33 (q : Option Addr) (n c : Nat) (F : Nat → List UInt8) (nm : List UInt8) (w : World) (hn : n ≤ 100000000) (hnm : nm.length < 4294967281) (hF : ∀ j, j < n → (F j).length < 4294967281) (hM : HasMax w) (hseg : SegV w q n (fun j => S (F j))) :
    Calls Tryd.prog 33 #[.slice q n c, S nm] w (MatchPost (anyM F n nm) w) := by
  have cS := cells_S
  simp only [Value.cells] at cS
  have hB0 : Below w.heap.size w (w.alloc (.cells #[S nm] 9)) := (Below.refl _ w).alloc (Nat.le_refl _) _
  have HC := hide (cont43 q n c w.heap.size F nm (w.alloc (.cells #[S nm] 9)) hn hnm hF (hM.below hB0) (hseg.below hB0) (by rw [World.cell?_alloc_at _ _ _ _ rfl]; rfl))
  have HB0 := hide hB0
  clear hn hnm hF hM hseg hB0
  go_enter Tryd.func33, Tryd.ntmps33
  go_wp2_with fail
  refine (unhide HC).mono ?_
  rintro e w1 ⟨rfl, hB⟩
  have HB : Hid (Below w.heap.size w w1) := (unhide HB0).trans (hB.mono (by simp))
  clear hB HC HB0
  go_wp2
  go_ret
  exact ⟨rfl, unhide HB⟩

set_option maxRecDepth 100000 in
set_option maxHeartbeats 1000000 in
/-- zzAnyMatch. -/
theorem zzany25 (q : Option Addr) (n c : Nat) (F : Nat → List UInt8) (nm : List UInt8) (w : World) (hn : n ≤ 100000000) (hnm : nm.length < 4294967281) (hF : ∀ j, j < n → (F j).length < 4294967281) (hM : HasMax w) (hseg : SegV w q n (fun j => S (F j))) :
    Calls Tryd.prog 25 #[.slice q n c, S nm] w (MatchPost (anyM F n nm) w) := by
  have Hseg := hide hseg
  have HF := hide hF
  have HM := hide hM
  clear hseg hF hM
  go_enter Tryd.func25, Tryd.ntmps25
  go_wp2
  go_loopw [5] (fun a wr => ∃ k : Nat, a = .int .i64 (k : Int) ∧ k ≤ n ∧ (∀ j, j < k → matchS (F j) nm = false) ∧ Below w.heap.size w wr) (fun a _ => n - (intOf a).toNat)
  case atStart => exact ⟨0, rfl, Nat.zero_le _, fun j h => absurd h (Nat.not_lt_zero j), Below.refl _ _⟩
  case round =>
    obtain ⟨k, rfl, hk, hno, hB⟩ := hrel
    by_cases hlt : k < n
    · obtain ⟨b1, o1, rfl, hcs⟩ := unhide Hseg (by omega)
      have hck := (hB.cell (p := ⟨b1, o1 + k, none⟩) (World.block_lt_of_cell? _ _ (hcs k hlt))).trans (hcs k hlt)
      have HC := hide (match_any (F k) nm wr (unhide HF k hlt) hnm ((unhide HM).below hB))
      have Hno := hide hno
      have HB := hide hB
      clear hcs hno hB
      cases hm : matchS (F k) nm with
      | true =>
        rw [hm] at HC
        have HA := hide (anyM_true (F := F) k hlt hm)
        clear hm
        go_wp2_with (go_at_call 10; refine (unhide HC).mono ?_; rintro e w1 ⟨rfl, hB1⟩; have HB1 := hide hB1; clear hB1 HC)
        go_ret
        exact ⟨by rw [unhide HA]; rfl, (unhide HB).trans ((unhide HB1).mono (unhide HB).size)⟩
      | false =>
        rw [hm] at HC
        have Hm := hide hm
        clear hm
        go_wp2_with (go_at_call 10; refine (unhide HC).mono ?_; rintro e w1 ⟨rfl, hB1⟩; have HB1 := hide hB1; clear hB1 HC)
        go_roundw
        case rel => exact ⟨k + 1, by go_num, by omega, fun j hj => (by
          by_cases e : j = k
          · rw [e]; exact unhide Hm
          · exact unhide Hno j (by omega)), (unhide HB).trans ((unhide HB1).mono (unhide HB).size)⟩
        case measure => simp [intOf]; omega
    · obtain rfl : k = n := by omega
      have HA := hide (anyM_false hno)
      have HB := hide hB
      clear hno hB
      go_wp2
      go_ret
      exact ⟨by rw [unhide HA]; rfl, unhide HB⟩

end Go.Proofs.Qxb6000393aDoor
