/-
  (*eventParser).line and ZZLine, walked, out of bytes.IndexAny's contract.
-/
import Derived.Test.Qxb6000583aDoorProg
import Derived.Test.Qxb6000583aDoorTabs
import Derived.WalkKit
import Derived.WalkSpells
import Derived.WalkLawsBesides
import Derived.Deep.QuietTactic
import Derived.BigQuiet
namespace Go.Proofs.Qxb6000583aDoor
open Go.RowKit

/-- r: the first line end of f 0 .. f (n - 1), or -1. -/
def FirstE (f : Nat → Int) (n : Nat) (r : Int) : Prop :=
  (r = -1 ∧ ∀ j, j < n → ¬ isE (f j)) ∨ ∃ k : Nat, r = k ∧ k < n ∧ isE (f k) ∧ ∀ j, j < k → ¬ isE (f j)

/-- How many bytes the line end at i takes. -/
def wid (f : Nat → Int) (n i : Nat) : Nat := if f i = 13 ∧ i + 1 < n ∧ f (i + 1) = 10 then 2 else 1

def IdxPost (f : Nat → Int) (n : Nat) (w : World) (e : Ending) (w' : World) : Prop :=
  ∃ r : Int, e = .returned (.int .i64 r) ∧ FirstE f n r ∧ Below w.heap.size w w'

def IdxSaid : Prop := ∀ (p : Option Addr) (n c : Nat) (f : Nat → Int) (w : World), n ≤ 1048576 → n ≤ c → Seg w p n f → (∀ j, j < n → 0 ≤ f j ∧ f j ≤ 255) → Tabs w →
  Calls Tryd.prog 14 #[.slice p n c, .string ⟨#[13, 10]⟩] w (IdxPost f n w)


theorem slice_l (p : Option Addr) (n c l : Nat) (hl : l ≤ n) (w : World) : (Instr.slice 22 (.slice p n c) (some (.int .i64 l)) none none).run Tryd.prog w = .ok (.slice (subp p l c) (n - l) (c - l)) w := by
  rw [run_slice_l w 22 p n c Tryd.underlying22 .i64 l (by omega) (by omega)]
  have hz : (sizeOf (Tryd.prog.elem 22)).run Tryd.prog w = .ok 1 w := by kernel_rfl
  rw [hz]
  simp [Result.andThen, sliced, subp]


theorem FirstE.none_of {f : Nat → Int} {n : Nat} {r : Int} (h : FirstE f n r) (hno : ∀ j, j < n → ¬ isE (f j)) : r = -1 := by
  rcases h with h | ⟨k, _, hk, he, _⟩
  · exact h.1
  · exact absurd he (hno k hk)
theorem FirstE.some_of {f : Nat → Int} {n k : Nat} {r : Int} (h : FirstE f n r) (hk : k < n) (he : isE (f k)) (hno : ∀ j, j < k → ¬ isE (f j)) : r = k := by
  rcases h with h | ⟨k', hr, hk', he', hno'⟩
  · exact absurd he (h.2 k hk)
  · have : k' = k := by
      rcases Nat.lt_trichotomy k' k with h | h | h
      · exact absurd he' (hno k' h)
      · exact h
      · exact absurd he (hno' k h)
    rw [hr, this]

theorem below_of_drewN {w w1 : World} {q : Nat} (h : Below (w.drewN q).heap.size (w.drewN q) w1) : Below w.heap.size w w1 := ⟨h.os, h.tape, h.output, h.size, h.block⟩

def LineEnd (B : Nat) (w : World) (v : Value) (ok : Bool) (np ns : Int) (e : Ending) (w' : World) : Prop :=
  e = .returned (.tuple #[v, .bool ok]) ∧ w'.cell? ⟨B, 2, none⟩ = some (.int .i64 np) ∧ w'.cell? ⟨B, 3, none⟩ = some (.int .i64 ns) ∧ Below B w w' ∧ w.heap.size ≤ w'.heap.size

set_option maxHeartbeats 400000 in
theorem line_miss (hI : IdxSaid) (B : Nat) (p : Option Addr) (n c pos scanned : Nat) (final : Bool) (f : Nat → Int) (w : World) (hn : n ≤ 1048576) (hc : n ≤ c) (hp : pos ≤ n) (hs : scanned ≤ n - pos)
    (h0 : w.cell? ⟨B, 0, none⟩ = some (.slice p n c)) (h2 : w.cell? ⟨B, 2, none⟩ = some (.int .i64 pos)) (h3 : w.cell? ⟨B, 3, none⟩ = some (.int .i64 scanned)) (f3 : w.frozen? ⟨B, 3, none⟩ = false)
    (hseg : Seg w p n f) (hf : ∀ j, j < n → 0 ≤ f j ∧ f j ≤ 255) (hT : Tabs w) (hno : ∀ j, pos + scanned ≤ j → j < n → ¬ isE (f j)) :
    Calls Tryd.prog 13 #[.pointer (some ⟨B, 0, none⟩), .bool final] w (LineEnd B w (.slice none 0 0) false pos ((n - pos : Nat) : Int)) := by
  have s1 := slice_l p n c pos hp
  have s2 := slice_l (subp p pos c) (n - pos) (c - pos) scanned hs
  have hBw := World.block_lt_of_cell? _ _ h0
  simp only at hBw
  have hg : Hid (∀ q, Calls Tryd.prog 14 #[.slice (subp (subp p pos c) scanned (c - pos)) (n - pos - scanned) (c - pos - scanned), .string ⟨#[13, 10]⟩] (w.drewN q) (IdxPost (fun j => f (pos + (scanned + j))) (n - pos - scanned) (w.drewN q))) := fun q =>
    hI _ _ _ _ _ (by omega) (by omega) (((hseg.sub hp hc).sub hs (by omega)).below ⟨rfl, rfl, rfl, Nat.le_refl _, fun _ _ => rfl⟩) (fun j hj => hf _ (by omega)) (hT.below (below_drewN_any _ _))
  have Hno := hide hno
  clear hI hseg hf hT hno
  go_enter Tryd.func13, Tryd.ntmps13
  go_wp2
  go_quiet (fail)
  go_wp2_with (go_at_call 14; refine (unhide hg _).mono ?_; rintro e w1 ⟨r, rfl, hF, hB⟩; obtain rfl := hF.none_of (fun j hj => unhide Hno _ (by omega) (by omega)); have hB1 := below_of_drewN hB; have g2 := (hB1.cell (p := ⟨B, 2, none⟩) hBw).trans h2; have g3 := (hB1.cell (p := ⟨B, 3, none⟩) hBw).trans h3; have g4 := (hB1.frozen (p := ⟨B, 3, none⟩) hBw).trans f3; clear hB hF)
  go_ret2
  exact ⟨rfl, (World.cell?_setCell_other _ _ _ _ (by simp)).trans g2, World.cell?_setCell_same _ _ _ g3, (hB1.mono (Nat.le_of_lt hBw)).setCell (p := ⟨B, 3, none⟩) (Nat.le_refl _) _, by simpa using hB1.size⟩

theorem slice_h (a : Addr) (n c l : Nat) (hl : l ≤ n) (hc : n ≤ c) (w : World) : (Instr.slice 22 (.slice (some a) n c) none (some (.int .i64 l)) none).run Tryd.prog w = .ok (.slice (some a) l c) w := by
  rw [run_slice_h w 22 (some a) n c Tryd.underlying22 .i64 l (by omega) (by omega)]
  have hz : (sizeOf (Tryd.prog.elem 22)).run Tryd.prog w = .ok 1 w := by kernel_rfl
  rw [hz]
  simp only [Result.andThen, sliced]
  split <;> simp [Addr.add]


set_option maxHeartbeats 800000 in
/-- A CR in the last byte that has come, and more may come. -/
theorem line_wait (hI : IdxSaid) (B b o n c pos scanned k : Nat) (f : Nat → Int) (w : World) (hn : n ≤ 1048576) (hc : n ≤ c) (hp : pos + (scanned + k) + 1 = n)
    (h0 : w.cell? ⟨B, 0, none⟩ = some (.slice (some ⟨b, o, none⟩) n c)) (h2 : w.cell? ⟨B, 2, none⟩ = some (.int .i64 pos)) (h3 : w.cell? ⟨B, 3, none⟩ = some (.int .i64 scanned)) (f3 : w.frozen? ⟨B, 3, none⟩ = false)
    (hseg : ∀ j, j < n → w.cell? ⟨b, o + j, none⟩ = some (.int .u8 (f j))) (hf : ∀ j, j < n → 0 ≤ f j ∧ f j ≤ 255) (hT : Tabs w) (hx : f (pos + (scanned + k)) = 13) (hno : ∀ j, pos + scanned ≤ j → j < pos + (scanned + k) → ¬ isE (f j)) :
    Calls Tryd.prog 13 #[.pointer (some ⟨B, 0, none⟩), .bool false] w (LineEnd B w (.slice none 0 0) false pos ((k : Int) + scanned)) := by
  have hE : isE 13 := Or.inl rfl
  have s1 := slice_l (some ⟨b, o, none⟩) n c pos (by omega)
  rw [subp_some (by omega)] at s1
  have s2 := slice_l (some ⟨b, o + pos, none⟩) (n - pos) (c - pos) scanned (by omega)
  have hBw := World.block_lt_of_cell? _ _ h0
  simp only at hBw
  have hseg' : Seg w (some ⟨b, o, none⟩) n f := fun _ => ⟨b, o, rfl, hseg⟩
  have hg : Hid (∀ q, Calls Tryd.prog 14 #[.slice (subp (some ⟨b, o + pos, none⟩) scanned (c - pos)) (n - pos - scanned) (c - pos - scanned), .string ⟨#[13, 10]⟩] (w.drewN q) (IdxPost (fun j => f (pos + (scanned + j))) (n - pos - scanned) (w.drewN q))) := fun q => by
    have hs0 := hseg'.sub (l := pos) (m := c) (by omega) hc
    rw [subp_some (by omega)] at hs0
    exact hI _ _ _ _ _ (by omega) (by omega) ((hs0.sub (l := scanned) (m := c - pos) (by omega) (by omega)).below ⟨rfl, rfl, rfl, Nat.le_refl _, fun _ _ => rfl⟩) (fun j hj => hf _ (by omega)) (hT.below (below_drewN_any _ _))
  have HR : Hid (∀ r, FirstE (fun j => f (pos + (scanned + j))) (n - pos - scanned) r → r = (k : Int)) := fun r hr => hr.some_of (by omega) (by rw [hx]; exact hE) (fun j hj => hno _ (by omega) (by omega))
  have c1 : w.cell? ⟨b, o + pos + (k + scanned), none⟩ = some (.int .u8 13) := by
    have := hseg (pos + (scanned + k)) (by omega)
    rw [hx] at this
    rw [show o + pos + (k + scanned) = o + (pos + (scanned + k)) from by omega]; exact this
  have hbw := World.block_lt_of_cell? _ _ c1
  simp only at hbw
  have t1 : ((k : Int) + scanned + 1 == ((n - pos : Nat) : Int)) = true := by rw [beq_iff_eq]; omega
  have hp1 : pos + (scanned + k) + 1 ≤ n := by omega
  clear hI hseg hf hT hno hseg' hx hE hp
  go_enter Tryd.func13, Tryd.ntmps13
  go_wp2
  go_quiet (fail)
  go_wp2_with (go_at_call 14; refine (unhide hg _).mono ?_; rintro e w1 ⟨r, rfl, hF, hB⟩; obtain rfl := unhide HR r hF; have hB1 := below_of_drewN hB; have g2 := (hB1.cell (p := ⟨B, 2, none⟩) hBw).trans h2; have g3 := (hB1.cell (p := ⟨B, 3, none⟩) hBw).trans h3; have g4 := (hB1.frozen (p := ⟨B, 3, none⟩) hBw).trans f3; have g6 := (hB1.cell (p := ⟨b, o + pos + (k + scanned), none⟩) hbw).trans c1; clear hB hF)
  go_ret2
  exact ⟨rfl, (World.cell?_setCell_other _ _ _ _ (by simp)).trans g2, World.cell?_setCell_same _ _ _ g3, (hB1.mono (Nat.le_of_lt hBw)).setCell (p := ⟨B, 3, none⟩) (Nat.le_refl _) _, by simpa using hB1.size⟩

set_option maxHeartbeats 1600000 in
theorem line_hit (hI : IdxSaid) (B b o n c pos scanned k : Nat) (final : Bool) (f : Nat → Int) (x y np : Int) (w : World) (hn : n ≤ 1048576) (hc : n ≤ c) (hp : pos + (scanned + k) < n)
    (h0 : w.cell? ⟨B, 0, none⟩ = some (.slice (some ⟨b, o, none⟩) n c)) (h2 : w.cell? ⟨B, 2, none⟩ = some (.int .i64 pos)) (h3 : w.cell? ⟨B, 3, none⟩ = some (.int .i64 scanned)) (f2 : w.frozen? ⟨B, 2, none⟩ = false) (f3 : w.frozen? ⟨B, 3, none⟩ = false)
    (hseg : ∀ j, j < n → w.cell? ⟨b, o + j, none⟩ = some (.int .u8 (f j))) (hf : ∀ j, j < n → 0 ≤ f j ∧ f j ≤ 255) (hT : Tabs w) (hx : f (pos + (scanned + k)) = x) (hy : pos + (scanned + k) + 1 < n → f (pos + (scanned + k) + 1) = y) (hno : ∀ j, pos + scanned ≤ j → j < pos + (scanned + k) → ¬ isE (f j))
    (ht : (x = 10 ∧ np = pos + (scanned + k) + 1) ∨ (x = 13 ∧ pos + (scanned + k) + 1 = n ∧ final = true ∧ np = pos + (scanned + k) + 1) ∨ (x = 13 ∧ pos + (scanned + k) + 1 < n ∧ y = 10 ∧ np = pos + (scanned + k) + 2) ∨ (x = 13 ∧ pos + (scanned + k) + 1 < n ∧ y ≠ 10 ∧ np = pos + (scanned + k) + 1)) :
    Calls Tryd.prog 13 #[.pointer (some ⟨B, 0, none⟩), .bool final] w (LineEnd B w (.slice (some ⟨b, o + pos, none⟩) (k + scanned) (c - pos)) true np 0) := by
  have hE : isE x := by rcases ht with h | h | h | h <;> simp [isE, h.1]
  have s1 := slice_l (some ⟨b, o, none⟩) n c pos (by omega)
  rw [subp_some (by omega)] at s1
  have s2 := slice_l (some ⟨b, o + pos, none⟩) (n - pos) (c - pos) scanned (by omega)
  have s3 := slice_h ⟨b, o + pos, none⟩ (n - pos) (c - pos) (k + scanned) (by omega) (by omega)
  simp only [Int.natCast_add] at s3
  have hBw := World.block_lt_of_cell? _ _ h0
  simp only at hBw
  have hseg' : Seg w (some ⟨b, o, none⟩) n f := fun _ => ⟨b, o, rfl, hseg⟩
  have hg : Hid (∀ q, Calls Tryd.prog 14 #[.slice (subp (some ⟨b, o + pos, none⟩) scanned (c - pos)) (n - pos - scanned) (c - pos - scanned), .string ⟨#[13, 10]⟩] (w.drewN q) (IdxPost (fun j => f (pos + (scanned + j))) (n - pos - scanned) (w.drewN q))) := fun q => by
    have hs0 := hseg'.sub (l := pos) (m := c) (by omega) hc
    rw [subp_some (by omega)] at hs0
    exact hI _ _ _ _ _ (by omega) (by omega) ((hs0.sub (l := scanned) (m := c - pos) (by omega) (by omega)).below ⟨rfl, rfl, rfl, Nat.le_refl _, fun _ _ => rfl⟩) (fun j hj => hf _ (by omega)) (hT.below (below_drewN_any _ _))
  have HR : Hid (∀ r, FirstE (fun j => f (pos + (scanned + j))) (n - pos - scanned) r → r = (k : Int)) := fun r hr => hr.some_of (by omega) (by rw [hx]; exact hE) (fun j hj => hno _ (by omega) (by omega))
  have c1 : w.cell? ⟨b, o + pos + (k + scanned), none⟩ = some (.int .u8 x) := by
    have := hseg (pos + (scanned + k)) (by omega)
    rw [hx] at this
    rw [show o + pos + (k + scanned) = o + (pos + (scanned + k)) from by omega]; exact this
  have c2 : pos + (scanned + k) + 1 < n → w.cell? ⟨b, o + pos + (k + scanned + 1), none⟩ = some (.int .u8 y) := fun h => by
    have := hseg _ h
    rw [hy h] at this
    rw [show o + pos + (k + scanned + 1) = o + (pos + (scanned + k) + 1) from by omega]; exact this
  have hbw := World.block_lt_of_cell? _ _ c1
  simp only at hbw
  clear hI hseg hf hT hno hseg' hx hy hE
  rcases ht with ⟨rfl, hnp⟩ | ⟨rfl, hnn, rfl, hnp⟩ | ⟨rfl, hnn, rfl, hnp⟩ | ⟨rfl, hnn, hy, hnp⟩
  all_goals
    have Hnp := hide hnp
    clear hnp
  · clear c2
    go_enter Tryd.func13, Tryd.ntmps13
    go_wp2
    go_quiet (fail)
    go_wp2_with (go_at_call 14; refine (unhide hg _).mono ?_; rintro e w1 ⟨r, rfl, hF, hB⟩; obtain rfl := unhide HR r hF; have hB1 := below_of_drewN hB; have g2 := (hB1.cell (p := ⟨B, 2, none⟩) hBw).trans h2; have g3 := (hB1.cell (p := ⟨B, 3, none⟩) hBw).trans h3; have g4 := (hB1.frozen (p := ⟨B, 3, none⟩) hBw).trans f3; have g5 := (hB1.frozen (p := ⟨B, 2, none⟩) hBw).trans f2; have g6 := (hB1.cell (p := ⟨b, o + pos + (k + scanned), none⟩) hbw).trans c1; clear hB hF)
    go_ret2
    exact ⟨rfl, (World.cell?_setCell_other _ _ _ _ (by simp)).trans ((World.cell?_setCell_same _ _ _ g2).trans (by rw [unhide Hnp]; exact congrArg (fun z => some (Value.int .i64 z)) (by omega))), World.cell?_setCell_same _ _ _ ((World.cell?_setCell_other _ _ _ _ (by simp)).trans g3), ((hB1.mono (Nat.le_of_lt hBw)).setCell (p := ⟨B, 2, none⟩) (Nat.le_refl _) _).setCell (p := ⟨B, 3, none⟩) (Nat.le_refl _) _, by simpa using hB1.size⟩
  · clear c2
    have t1 : ((k : Int) + scanned + 1 == ((n - pos : Nat) : Int)) = true := by rw [beq_iff_eq]; omega
    go_enter Tryd.func13, Tryd.ntmps13
    go_wp2
    go_quiet (fail)
    go_wp2_with (go_at_call 14; refine (unhide hg _).mono ?_; rintro e w1 ⟨r, rfl, hF, hB⟩; obtain rfl := unhide HR r hF; have hB1 := below_of_drewN hB; have g2 := (hB1.cell (p := ⟨B, 2, none⟩) hBw).trans h2; have g3 := (hB1.cell (p := ⟨B, 3, none⟩) hBw).trans h3; have g4 := (hB1.frozen (p := ⟨B, 3, none⟩) hBw).trans f3; have g5 := (hB1.frozen (p := ⟨B, 2, none⟩) hBw).trans f2; have g6 := (hB1.cell (p := ⟨b, o + pos + (k + scanned), none⟩) hbw).trans c1; clear hB hF)
    go_ret2
    exact ⟨rfl, (World.cell?_setCell_other _ _ _ _ (by simp)).trans ((World.cell?_setCell_same _ _ _ g2).trans (by rw [unhide Hnp]; exact congrArg (fun z => some (Value.int .i64 z)) (by omega))), World.cell?_setCell_same _ _ _ ((World.cell?_setCell_other _ _ _ _ (by simp)).trans g3), ((hB1.mono (Nat.le_of_lt hBw)).setCell (p := ⟨B, 2, none⟩) (Nat.le_refl _) _).setCell (p := ⟨B, 3, none⟩) (Nat.le_refl _) _, by simpa using hB1.size⟩
  · have c2' := c2 hnn
    clear c2
    have t1 : ((k : Int) + scanned + 1 == ((n - pos : Nat) : Int)) = false := by rw [beq_eq_false_iff_ne]; omega
    have t2 : (k : Int) + scanned + 1 < ((n - pos : Nat) : Int) := by omega
    go_enter Tryd.func13, Tryd.ntmps13
    go_wp2
    go_quiet (fail)
    go_wp2_with (go_at_call 14; refine (unhide hg _).mono ?_; rintro e w1 ⟨r, rfl, hF, hB⟩; obtain rfl := unhide HR r hF; have hB1 := below_of_drewN hB; have g2 := (hB1.cell (p := ⟨B, 2, none⟩) hBw).trans h2; have g3 := (hB1.cell (p := ⟨B, 3, none⟩) hBw).trans h3; have g4 := (hB1.frozen (p := ⟨B, 3, none⟩) hBw).trans f3; have g5 := (hB1.frozen (p := ⟨B, 2, none⟩) hBw).trans f2; have g6 := (hB1.cell (p := ⟨b, o + pos + (k + scanned), none⟩) hbw).trans c1; have g7 := (hB1.cell (p := ⟨b, o + pos + (k + scanned + 1), none⟩) hbw).trans c2'; clear hB hF)
    go_ret2
    exact ⟨rfl, (World.cell?_setCell_other _ _ _ _ (by simp)).trans ((World.cell?_setCell_same _ _ _ g2).trans (by rw [unhide Hnp]; exact congrArg (fun z => some (Value.int .i64 z)) (by omega))), World.cell?_setCell_same _ _ _ ((World.cell?_setCell_other _ _ _ _ (by simp)).trans g3), ((hB1.mono (Nat.le_of_lt hBw)).setCell (p := ⟨B, 2, none⟩) (Nat.le_refl _) _).setCell (p := ⟨B, 3, none⟩) (Nat.le_refl _) _, by simpa using hB1.size⟩
  · have c2' := c2 hnn
    clear c2
    have t1 : ((k : Int) + scanned + 1 == ((n - pos : Nat) : Int)) = false := by rw [beq_eq_false_iff_ne]; omega
    have t2 : (k : Int) + scanned + 1 < ((n - pos : Nat) : Int) := by omega
    have t3 : (y == 10) = false := by rw [beq_eq_false_iff_ne]; exact hy
    clear hy
    go_enter Tryd.func13, Tryd.ntmps13
    go_wp2
    go_quiet (fail)
    go_wp2_with (go_at_call 14; refine (unhide hg _).mono ?_; rintro e w1 ⟨r, rfl, hF, hB⟩; obtain rfl := unhide HR r hF; have hB1 := below_of_drewN hB; have g2 := (hB1.cell (p := ⟨B, 2, none⟩) hBw).trans h2; have g3 := (hB1.cell (p := ⟨B, 3, none⟩) hBw).trans h3; have g4 := (hB1.frozen (p := ⟨B, 3, none⟩) hBw).trans f3; have g5 := (hB1.frozen (p := ⟨B, 2, none⟩) hBw).trans f2; have g6 := (hB1.cell (p := ⟨b, o + pos + (k + scanned), none⟩) hbw).trans c1; have g7 := (hB1.cell (p := ⟨b, o + pos + (k + scanned + 1), none⟩) hbw).trans c2'; clear hB hF)
    go_ret2
    exact ⟨rfl, (World.cell?_setCell_other _ _ _ _ (by simp)).trans ((World.cell?_setCell_same _ _ _ g2).trans (by rw [unhide Hnp]; exact congrArg (fun z => some (Value.int .i64 z)) (by omega))), World.cell?_setCell_same _ _ _ ((World.cell?_setCell_other _ _ _ _ (by simp)).trans g3), ((hB1.mono (Nat.le_of_lt hBw)).setCell (p := ⟨B, 2, none⟩) (Nat.le_refl _) _).setCell (p := ⟨B, 3, none⟩) (Nat.le_refl _) _, by simpa using hB1.size⟩

end Go.Proofs.Qxb6000583aDoor
