/-
  bytes.IndexAny(s, "\r\n") at a slice of more than eight bytes: the set.
-/
import Derived.Test.Qxb6000583aDoorIdx1
import Derived.Lib.AsciiSet
namespace Go.Proofs.Qxb6000583aDoor
open Go.RowKit

def S2 : Array Value := Lib.setCells [13, 10]
theorem S2_size : S2.size = 256 := Lib.setCells_size _

def Z0 : Array Value := Array.replicate 256 (.bool false)
theorem z46 (w : World) : (zeroValue 46).run Tryd.prog w = .ok (.agg Z0) w := by kernel_rfl
theorem sc46 (w : World) : (storeCells ⟨w.heap.size + 1, 0, none⟩ S2.toList 0).run Tryd.prog ((w.alloc (.cells S2 46)).alloc (.cells Z0 46)) = .ok () ((w.alloc (.cells S2 46)).alloc (.cells S2 46)) := by
  have := run_storeCells_new (P := Tryd.prog) (w.alloc (.cells S2 46)) 46 Z0 S2 (by rw [S2_size]; kernel_rfl) (by rw [S2_size]; unfold Z0; rw [Array.size_replicate]) (Lib.setCells_one _)
  simpa using this

theorem mk_set (w : World) : Calls Tryd.prog 18 #[.string ⟨#[13, 10]⟩] w fun e w' => e = .returned (.tuple #[.agg S2, .bool true]) ∧ w' = w.alloc (.cells S2 46) :=
  Any.bytes_makeASCIISet Tryd.lays11 (fun _ => by kernel_rfl) (by kernel_rfl) ⟨#[13, 10]⟩ w (by decide) (fun j b h => by
    match j, h with
    | 0, h => cases h; decide
    | 1, h => cases h; decide
    | j + 2, h => simp at h)

set_option maxRecDepth 100000 in
set_option maxHeartbeats 1600000 in
theorem idx_long (b o n c : Nat) (f : Nat → Int) (w : World) (h8 : 8 < n) (hn : n ≤ 1048576) (hs : ∀ j, j < n → w.cell? ⟨b, o + j, none⟩ = some (.int .u8 (f j))) (hf : ∀ j, j < n → 0 ≤ f j ∧ f j ≤ 255) :
    Calls Tryd.prog 14 #[.slice (some ⟨b, o, none⟩) n c, .string ⟨#[13, 10]⟩] w (IdxPost f n w) := by
  have hn1 : ((n : Int) == 1) = false := beq_eq_false_iff_ne.2 (by omega)
  have h8z : decide ((8 : Int) < (n : Int)) = true := decide_eq_true (by omega)
  have hb : b < w.heap.size := World.block_lt_of_cell? _ _ (hs 0 (by omega))
  have Hs := hide hs
  have Hf := hide hf
  clear hs hf
  have hz := z46
  have hSz := S2_size
  have hsc := sc46 w
  go_enter Tryd.func14, Tryd.ntmps14
  go_wp2_with (first | (go_at_call 18; refine (mk_set _).mono ?_; rintro e w' ⟨rfl, rfl⟩) | (go_at_call 17; go_in))
  clear hsc hz
  go_loopw [62] (fun i wr => ∃ k : Nat, k ≤ n ∧ i = .int .i64 k ∧ (∀ j, j < k → ¬ isE (f j)) ∧ wr = ((w.alloc (.cells S2 46)).alloc (.cells S2 46))) (fun i _ => n - (intOf i).toNat)
  case atStart => exact ⟨0, Nat.zero_le _, rfl, fun j h => absurd h (Nat.not_lt_zero j), rfl⟩
  case round =>
    obtain ⟨k, hk, rfl, hno, rfl⟩ := hrel
    have Hno := hide hno
    clear hno
    have hBB : Below w.heap.size w ((w.alloc (.cells S2 46)).alloc (.cells S2 46)) := ((Below.refl _ _).alloc (Nat.le_refl _) _).alloc (by simp) _
    by_cases hlt : k < n
    · have hck := unhide Hs k hlt
      have hfk := unhide Hf k hlt
      obtain ⟨x, hx⟩ : ∃ x, f k = x := ⟨_, rfl⟩
      rw [hx] at hck hfk
      have Hx := hide hx
      clear hx
      obtain ⟨x0, rfl⟩ : ∃ x0 : UInt8, x = (x0.toNat : Int) := ⟨UInt8.ofNat x.toNat, by rw [UInt8.toNat_ofNat']; omega⟩
      clear hfk
      have hcon : Hid (([13, 10] : List UInt8).contains x0 = true ↔ isE (x0.toNat : Int)) := by
        simp only [List.contains_cons, List.contains_nil, Bool.or_false, Bool.or_eq_true, beq_iff_eq, isE]
        constructor
        · rintro (rfl | rfl)
          · exact Or.inl rfl
          · exact Or.inr rfl
        · rintro (h | h)
          · exact Or.inl (UInt8.toNat_inj.1 (show x0.toNat = 13 by omega))
          · exact Or.inr (UInt8.toNat_inj.1 (show x0.toNat = 10 by omega))
      have hcx : ((w.alloc (.cells S2 46)).alloc (.cells S2 46)).cell? ⟨w.heap.size + 1, x0.toNat, none⟩ = some (.bool (([13, 10] : List UInt8).contains x0)) := by
        rw [World.cell?_alloc_at _ _ _ _ (by simp)]; exact Lib.setCells_at _ _
      cases hin : ([13, 10] : List UInt8).contains x0 <;> rw [hin] at hcx
      · have hE : Hid (¬ isE (x0.toNat : Int)) := fun h => by have := (unhide hcon).2 h; rw [hin] at this; cases this
        have hC := hide (Any.bytes_asciiSet_contains Tryd.lays16 (w.heap.size + 1) x0 false _ hcx)
        clear hin hcon hcx
        go_wp2_with (go_at_call 19; refine (unhide hC).mono ?_; rintro e w' ⟨rfl, rfl⟩)
        go_roundw
        case rel => exact ⟨k + 1, by omega, by go_num, fun j hj => by
          by_cases e : j = k
          · subst e; rw [unhide Hx]; exact unhide hE
          · exact unhide Hno j (by omega), trivial⟩
        case measure => simp [intOf]; omega
      · have hE : Hid (isE (x0.toNat : Int)) := (unhide hcon).1 hin
        have hC := hide (Any.bytes_asciiSet_contains Tryd.lays16 (w.heap.size + 1) x0 true _ hcx)
        clear hin hcon hcx
        go_wp2_with (go_at_call 19; refine (unhide hC).mono ?_; rintro e w' ⟨rfl, rfl⟩)
        go_ret
        exact ⟨k, rfl, Or.inr ⟨k, rfl, hlt, by rw [unhide Hx]; exact unhide hE, unhide Hno⟩, hBB⟩
    · go_wp2
      go_ret
      exact ⟨-1, rfl, Or.inl ⟨rfl, fun j hj => unhide Hno j (by omega)⟩, hBB⟩

/-- bytes.IndexAny(s, CR LF) at every slice of at most a mebibyte. -/
theorem idx_said : IdxSaid := by
  intro p n c f w hn hc hseg hf hT
  by_cases h0 : n = 0
  · subst h0; exact idx_none p c f w
  · obtain ⟨b, o, rfl, hs⟩ := hseg (by omega)
    by_cases h1 : n = 1
    · subst h1; exact idx_one b o c f w (hs 0 (by omega)) (hf 0 (by omega))
    · by_cases h8 : n ≤ 8
      · exact idx_short b o n c f w (by omega) h8 hc hs hf hT
      · exact idx_long b o n c f w (by omega) hn hs hf

end Go.Proofs.Qxb6000583aDoor
