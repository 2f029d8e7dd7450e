/-
  Cuts of slices; a copy at every slice; what follows from what line answers.
-/
import Derived.Test.Qxb6000583aDoorZZ
import Derived.Test.Qxb6000583aDoorSmall
import Derived.Test.Qxb6000583aDoorClone
namespace Go.Proofs.Qxb6000583aDoor
open Go.RowKit

def TruePost (w : World) (e : Ending) (w' : World) : Prop := e = .returned (.bool true) ∧ Below w.heap.size w w'

theorem slice_h' (p : Option Addr) (n c l : Nat) (hl : l ≤ n) (hc : n ≤ c) (w : World) : (Instr.slice 22 (.slice p n c) none (some (.int .i64 l)) none).run Tryd.prog w = .ok (.slice p l c) w := by
  rw [run_slice_h w 22 p n c Tryd.underlying22 .i64 l (by omega) (by omega)]
  have hz : (sizeOf (Tryd.prog.elem 22)).run Tryd.prog w = .ok 1 w := by kernel_rfl
  rw [hz]
  simp only [Result.andThen, sliced]
  cases p with
  | none => simp
  | some a => split <;> simp [Addr.add]

theorem slice_lh (p : Option Addr) (n c l h : Nat) (hl : l ≤ h) (hh : h ≤ n) (hc : n ≤ c) (w : World) : (Instr.slice 22 (.slice p n c) (some (.int .i64 l)) (some (.int .i64 h)) none).run Tryd.prog w = .ok (.slice (subp p l c) (h - l) (c - l)) w := by
  rw [run_slice_lh w 22 p n c Tryd.underlying22 .i64 .i64 l h (by omega) (by omega) (by omega)]
  have hz : (sizeOf (Tryd.prog.elem 22)).run Tryd.prog w = .ok 1 w := by kernel_rfl
  rw [hz]
  simp [Result.andThen, sliced, subp]

/-- A copy at every slice, nil too. -/
def CopyPost (f : Nat → Int) (n : Nat) (w : World) (e : Ending) (w' : World) : Prop :=
  ∃ q, e = .returned (.slice q n n) ∧ Seg w' q n f ∧ Below w.heap.size w w'
theorem cloneBytes_any (p : Option Addr) (n c : Nat) (f : Nat → Int) (w : World) (hn : n ≤ 1048576) (hs : Seg w p n f) (h0 : p = none → n = 0 ∧ c = 0) :
    Calls Tryd.prog 6 #[.slice p n c] w (CopyPost f n w) := by
  cases p with
  | none =>
    obtain ⟨rfl, rfl⟩ := h0 rfl
    exact (cloneBytes_nil w).mono fun e w' ⟨he, hw⟩ => ⟨none, he, Seg.zero _ _ _, by rw [hw]; exact Below.refl _ _⟩
  | some a =>
    refine (cloneBytes_some a n c f w hn hs).mono fun e w' ⟨he, hw⟩ => ⟨_, he, fun h => ⟨w.heap.size, 0, rfl, fun j hj => ?_⟩, ?_⟩
    · rw [hw, World.cell?_alloc_at _ _ _ _ rfl, Nat.zero_add, clo_at f n n j hj, if_pos hj]
    · rw [hw]; exact (Below.refl _ _).alloc (Nat.le_refl _) _

theorem LineSpec.miss {f : Nat → Int} {n pos scanned : Nat} {final : Bool} {p : Option Addr} {c : Nat} {q : Option Addr} {L C : Nat} {ok : Bool} {np ns : Nat} (h : LineSpec f n pos scanned final p c q L C ok np ns)
    (hno : ∀ j, pos ≤ j → j < n → ¬ isE (f j)) : ok = false ∧ q = none ∧ L = 0 ∧ C = 0 ∧ np = pos ∧ ns = n - pos := by
  rcases h with ⟨h1, h2, h3, h4, h5, h6, _⟩ | ⟨_, _, _, _, _, _, i, hi, hi2, hi3, _⟩ | ⟨_, _, i, hi, hi2, hi3, _⟩
  · exact ⟨h1, h2, h3, h4, h5, h6⟩
  · exact absurd (Or.inl hi3) (hno i (by omega) (by omega))
  · exact absurd hi3 (hno i (by omega) hi2)
theorem first_unique {f : Nat → Int} {a i j : Nat} (hi : a ≤ i) (hj : a ≤ j) (ei : isE (f i)) (ej : isE (f j)) (ni : ∀ t, a ≤ t → t < i → ¬ isE (f t)) (nj : ∀ t, a ≤ t → t < j → ¬ isE (f t)) : i = j := by
  rcases Nat.lt_trichotomy i j with h | h | h
  · exact absurd ei (nj i hi h)
  · exact h
  · exact absurd ej (ni j hj h)
theorem LineSpec.hit {f : Nat → Int} {n pos scanned : Nat} {final : Bool} {p : Option Addr} {c : Nat} {q : Option Addr} {L C : Nat} {ok : Bool} {np ns i : Nat} (h : LineSpec f n pos scanned final p c q L C ok np ns)
    (hi : pos ≤ i) (hin : i < n) (hE : isE (f i)) (hno : ∀ j, pos ≤ j → j < i → ¬ isE (f j)) (hsc : ∀ j, pos ≤ j → j < pos + scanned → ¬ isE (f j)) (hw : ¬ (f i = 13 ∧ i + 1 = n ∧ final = false)) :
    ok = true ∧ ns = 0 ∧ q = subp p pos c ∧ L = i - pos ∧ C = c - pos ∧ np = i + wid f n i := by
  have hi' : pos + scanned ≤ i := Nat.le_of_not_lt fun h => hsc i hi h hE
  rcases h with ⟨_, _, _, _, _, _, hn⟩ | ⟨_, _, _, _, _, hf, i', h1, h2, h3, h4, _⟩ | ⟨h1, h2, i', h3, h4, h5, h6, h7, h8, h9, h10, h11⟩
  · exact absurd hE (hn i hi' hin)
  · have : i = i' := first_unique hi' h1 hE (Or.inl h3) (fun t ht => hno t (by omega)) h4
    subst this; exact absurd ⟨h3, h2, hf⟩ hw
  · have : i = i' := first_unique hi' h3 hE h5 (fun t ht => hno t (by omega)) h6
    subst this; exact ⟨h1, h2, h8, h9, h10, h11⟩
theorem LineSpec.wait {f : Nat → Int} {n pos scanned : Nat} {final : Bool} {p : Option Addr} {c : Nat} {q : Option Addr} {L C : Nat} {ok : Bool} {np ns i : Nat} (h : LineSpec f n pos scanned final p c q L C ok np ns)
    (hi : pos ≤ i) (hin : i + 1 = n) (hE : f i = 13) (hno : ∀ j, pos ≤ j → j < i → ¬ isE (f j)) (hsc : ∀ j, pos ≤ j → j < pos + scanned → ¬ isE (f j)) (hw : final = false) :
    ok = false ∧ q = none ∧ L = 0 ∧ C = 0 ∧ np = pos ∧ ns = i - pos := by
  have hi' : pos + scanned ≤ i := Nat.le_of_not_lt fun h => hsc i hi h (Or.inl hE)
  rcases h with ⟨_, _, _, _, _, _, hn⟩ | ⟨g1, g2, g3, g4, g5, hf, i', h1, h2, h3, h4, h5⟩ | ⟨h1, h2, i', h3, h4, h5, h6, h7, h8, h9, h10, h11⟩
  · exact absurd (Or.inl hE) (hn i hi' (by omega))
  · have : i = i' := by omega
    subst this; exact ⟨g1, g2, g3, g4, g5, h5⟩
  · have : i = i' := first_unique hi' h3 (Or.inl hE) h5 (fun t ht => hno t (by omega)) h6
    subst this; exact absurd ⟨hE, hin, hw⟩ h7


end Go.Proofs.Qxb6000583aDoor
