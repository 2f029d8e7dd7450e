/-
  ZZLine, walked, and what it answers in plain words ('LineSpec').
-/
import Derived.Test.Qxb6000583aDoorIdxL
namespace Go.Proofs.Qxb6000583aDoor
open Go.RowKit

def ZZEnd (w : World) (v : Value) (ok : Bool) (np ns : Int) (e : Ending) (w' : World) : Prop :=
  e = .returned (.tuple #[v, .bool ok, .int .i64 np, .int .i64 ns]) ∧ Below w.heap.size w w'

def box (p : Option Addr) (n c pos scanned : Nat) : Array Value := #[.slice p n c, .int .i64 0, .int .i64 pos, .int .i64 scanned, .bool false, .string ⟨#[]⟩, .slice none 0 0]

set_option maxRecDepth 100000 in
set_option maxHeartbeats 800000 in
theorem zz_of (p : Option Addr) (n c pos scanned : Nat) (final : Bool) (v : Value) (ok : Bool) (np ns : Int) (w : World)
    (hL : Calls Tryd.prog 13 #[.pointer (some ⟨w.heap.size, 0, none⟩), .bool final] (w.alloc (.cells (box p n c pos scanned) 38)) (LineEnd w.heap.size (w.alloc (.cells (box p n c pos scanned) 38)) v ok np ns)) :
    Calls Tryd.prog 12 #[.slice p n c, .int .i64 pos, .int .i64 scanned, .bool final] w (ZZEnd w v ok np ns) := by
  have HL := hide hL
  clear hL
  go_enter Tryd.func12, Tryd.ntmps12
  go_wp2_with fail
  refine (unhide HL).mono ?_
  rintro e w1 ⟨rfl, g2, g3, hB, _⟩
  clear HL
  go_wp2
  go_quiet (fail)
  go_wp2
  refine bodyPost_ret (v := .tuple #[v, .bool ok, .int .i64 np, .int .i64 ns]) (by simp [results, Tryd.results12, go_sem]) rfl ⟨rfl, ?_⟩
  exact ((((Below.refl _ _).alloc (Nat.le_refl _) _).trans hB).trans ((below_drewN_any _ _).mono (by have := hB.size; simp at this; omega)))

/-- WHAT line ANSWERS: the bytes f 0 .. f (n - 1), read from pos, the first scanned of them known. -/
def LineSpec (f : Nat → Int) (n pos scanned : Nat) (final : Bool) (p : Option Addr) (c : Nat) (q : Option Addr) (L C : Nat) (ok : Bool) (np ns : Nat) : Prop :=
  (ok = false ∧ q = none ∧ L = 0 ∧ C = 0 ∧ np = pos ∧ ns = n - pos ∧ ∀ j, pos + scanned ≤ j → j < n → ¬ isE (f j)) ∨
  (ok = false ∧ q = none ∧ L = 0 ∧ C = 0 ∧ np = pos ∧ final = false ∧ ∃ i, pos + scanned ≤ i ∧ i + 1 = n ∧ f i = 13 ∧ (∀ j, pos + scanned ≤ j → j < i → ¬ isE (f j)) ∧ ns = i - pos) ∨
  (ok = true ∧ ns = 0 ∧ ∃ i, pos + scanned ≤ i ∧ i < n ∧ isE (f i) ∧ (∀ j, pos + scanned ≤ j → j < i → ¬ isE (f j)) ∧ ¬ (f i = 13 ∧ i + 1 = n ∧ final = false) ∧ q = subp p pos c ∧ L = i - pos ∧ C = c - pos ∧ np = i + wid f n i)

/-- There is a first line end from a on, or none. -/
theorem first_or (f : Nat → Int) (a n : Nat) : (∀ j, a ≤ j → j < n → ¬ isE (f j)) ∨ ∃ i, a ≤ i ∧ i < n ∧ isE (f i) ∧ ∀ j, a ≤ j → j < i → ¬ isE (f j) := by
  induction n with
  | zero => exact Or.inl fun j _ h => absurd h (Nat.not_lt_zero j)
  | succ n ih =>
    rcases ih with h | ⟨i, h1, h2, h3, h4⟩
    · by_cases ha : a ≤ n ∧ isE (f n)
      · exact Or.inr ⟨n, ha.1, Nat.lt_succ_self n, ha.2, h⟩
      · refine Or.inl fun j hj hjn he => ?_
        by_cases e : j = n
        · subst e; exact ha ⟨hj, he⟩
        · exact h j hj (by omega) he
    · exact Or.inr ⟨i, h1, by omega, h3, h4⟩

def ZZPost (f : Nat → Int) (n pos scanned : Nat) (final : Bool) (p : Option Addr) (c : Nat) (w : World) (e : Ending) (w' : World) : Prop :=
  ∃ q L C ok np ns, e = .returned (.tuple #[.slice q L C, .bool ok, .int .i64 ((np : Nat) : Int), .int .i64 ((ns : Nat) : Int)]) ∧ LineSpec f n pos scanned final p c q L C ok np ns ∧ Below w.heap.size w w'

theorem zz_any (p : Option Addr) (n c pos scanned : Nat) (final : Bool) (f : Nat → Int) (w : World) (hn : n ≤ 1048576) (hc : n ≤ c) (hp : pos ≤ n) (hs : scanned ≤ n - pos)
    (hseg : Seg w p n f) (hf : ∀ j, j < n → 0 ≤ f j ∧ f j ≤ 255) (hT : Tabs w) :
    Calls Tryd.prog 12 #[.slice p n c, .int .i64 pos, .int .i64 scanned, .bool final] w (ZZPost f n pos scanned final p c w) := by
  have hB : Below w.heap.size w (w.alloc (.cells (box p n c pos scanned) 38)) := (Below.refl _ _).alloc (Nat.le_refl _) _
  have h0 : (w.alloc (.cells (box p n c pos scanned) 38)).cell? ⟨w.heap.size, 0, none⟩ = some (.slice p n c) := by rw [World.cell?_alloc_at _ _ _ _ rfl]; rfl
  have h2 : (w.alloc (.cells (box p n c pos scanned) 38)).cell? ⟨w.heap.size, 2, none⟩ = some (.int .i64 pos) := by rw [World.cell?_alloc_at _ _ _ _ rfl]; rfl
  have h3 : (w.alloc (.cells (box p n c pos scanned) 38)).cell? ⟨w.heap.size, 3, none⟩ = some (.int .i64 scanned) := by rw [World.cell?_alloc_at _ _ _ _ rfl]; rfl
  have f2 : (w.alloc (.cells (box p n c pos scanned) 38)).frozen? ⟨w.heap.size, 2, none⟩ = false := World.frozen?_alloc_at _ _ _ _ rfl
  have f3 : (w.alloc (.cells (box p n c pos scanned) 38)).frozen? ⟨w.heap.size, 3, none⟩ = false := World.frozen?_alloc_at _ _ _ _ rfl
  have hseg' := hseg.below hB
  have hT' := hT.below hB
  rcases first_or f (pos + scanned) n with hno | ⟨i, hi1, hi2, hE, hno⟩
  · exact (zz_of p n c pos scanned final _ _ _ _ w (line_miss idx_said w.heap.size p n c pos scanned final f _ hn hc hp hs h0 h2 h3 f3 hseg' hf hT' hno)).mono
      fun e w' ⟨he, hb⟩ => ⟨none, 0, 0, false, pos, n - pos, he, Or.inl ⟨rfl, rfl, rfl, rfl, rfl, rfl, hno⟩, hb⟩
  · obtain ⟨k, rfl⟩ : ∃ k, i = pos + (scanned + k) := ⟨i - pos - scanned, by omega⟩
    obtain ⟨b, o, rfl, hcs⟩ := hseg' (by omega)
    by_cases hw : f (pos + (scanned + k)) = 13 ∧ pos + (scanned + k) + 1 = n ∧ final = false
    · obtain ⟨w1, w2, rfl⟩ := hw
      exact (zz_of _ n c pos scanned false _ _ _ _ w (line_wait idx_said w.heap.size b o n c pos scanned k f _ hn hc w2 h0 h2 h3 f3 hcs hf hT' w1 hno)).mono
        fun e w' ⟨he, hb⟩ => ⟨none, 0, 0, false, pos, k + scanned, by rw [he]; simp, Or.inr (Or.inl ⟨rfl, rfl, rfl, rfl, rfl, rfl, _, hi1, w2, w1, hno, by omega⟩), hb⟩
    · have ht : (f (pos + (scanned + k)) = 10 ∧ ((pos + (scanned + k) + wid f n (pos + (scanned + k)) : Nat) : Int) = pos + (scanned + k) + 1) ∨ (f (pos + (scanned + k)) = 13 ∧ pos + (scanned + k) + 1 = n ∧ final = true ∧ ((pos + (scanned + k) + wid f n (pos + (scanned + k)) : Nat) : Int) = pos + (scanned + k) + 1)
          ∨ (f (pos + (scanned + k)) = 13 ∧ pos + (scanned + k) + 1 < n ∧ f (pos + (scanned + k) + 1) = 10 ∧ ((pos + (scanned + k) + wid f n (pos + (scanned + k)) : Nat) : Int) = pos + (scanned + k) + 2) ∨ (f (pos + (scanned + k)) = 13 ∧ pos + (scanned + k) + 1 < n ∧ f (pos + (scanned + k) + 1) ≠ 10 ∧ ((pos + (scanned + k) + wid f n (pos + (scanned + k)) : Nat) : Int) = pos + (scanned + k) + 1) := by
        unfold wid
        rcases hE with h13 | h10
        · by_cases hlt : pos + (scanned + k) + 1 < n
          · by_cases hy : f (pos + (scanned + k) + 1) = 10
            · right; right; left
              exact ⟨h13, hlt, hy, by rw [if_pos ⟨h13, hlt, hy⟩]; omega⟩
            · right; right; right
              exact ⟨h13, hlt, hy, by rw [if_neg (fun h => hy h.2.2)]; omega⟩
          · right; left
            exact ⟨h13, by omega, by cases final; exact absurd ⟨h13, by omega, rfl⟩ hw; rfl, by rw [if_neg (fun h => hlt h.2.1)]; omega⟩
        · left
          exact ⟨h10, by rw [if_neg (fun h => by rw [h10] at h; omega)]; omega⟩
      exact (zz_of _ n c pos scanned final _ _ _ _ w (line_hit idx_said w.heap.size b o n c pos scanned k final f _ _ _ _ hn hc (by omega) h0 h2 h3 f2 f3 hcs hf hT' rfl (fun _ => rfl) hno ht)).mono
        fun e w' ⟨he, hb⟩ => ⟨some ⟨b, o + pos, none⟩, k + scanned, c - pos, true, pos + (scanned + k) + wid f n (pos + (scanned + k)), 0, he, Or.inr (Or.inr ⟨rfl, rfl, _, hi1, hi2, hE, hno, hw, (subp_some (by omega)).symm, by omega, rfl, rfl⟩), hb⟩

end Go.Proofs.Qxb6000583aDoor
