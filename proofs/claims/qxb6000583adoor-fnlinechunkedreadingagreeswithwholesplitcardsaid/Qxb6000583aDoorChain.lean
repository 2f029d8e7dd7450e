/-
  The lines of a run of bytes, as a chain of line ends: plain laws; nothing of the dump.
-/
import Derived.Test.Qxb6000583aDoorGen
namespace Go.Proofs.Qxb6000583aDoor
open Go.RowKit

/-- From a on the lines L (each from its start to its end), the next line's start is b. -/
def Chain (f : Nat → Int) (n : Nat) : Nat → List (Nat × Nat) → Nat → Prop
  | a, [], b => a = b
  | a, l :: L, b => l.1 = a ∧ a ≤ l.2 ∧ l.2 < n ∧ isE (f l.2) ∧ (∀ j, a ≤ j → j < l.2 → ¬ isE (f j)) ∧ Chain f n (l.2 + wid f n l.2) L b

theorem wid_pos (f : Nat → Int) (n i : Nat) : 1 ≤ wid f n i ∧ wid f n i ≤ 2 := by unfold wid; split <;> omega
theorem wid_le (f : Nat → Int) (n i : Nat) (h : i < n) : i + wid f n i ≤ n := by unfold wid; split <;> omega

theorem Chain.snoc {f : Nat → Int} {n : Nat} : ∀ {a b e : Nat} {L : List (Nat × Nat)}, Chain f n a L b → b ≤ e → e < n → isE (f e) → (∀ j, b ≤ j → j < e → ¬ isE (f j)) → Chain f n a (L ++ [(b, e)]) (e + wid f n e)
  | a, b, e, [], h, h1, h2, h3, h4 => by
    have : a = b := h
    subst this
    exact ⟨rfl, h1, h2, h3, h4, rfl⟩
  | a, b, e, l :: L, h, h1, h2, h3, h4 => ⟨h.1, h.2.1, h.2.2.1, h.2.2.2.1, h.2.2.2.2.1, Chain.snoc h.2.2.2.2.2 h1 h2 h3 h4⟩

theorem Chain.le {f : Nat → Int} {n : Nat} : ∀ {a b : Nat} {L : List (Nat × Nat)}, Chain f n a L b → a + L.length ≤ b
  | a, b, [], h => by have : a = b := h; simp; omega
  | a, b, l :: L, h => by
    have := Chain.le h.2.2.2.2.2
    have := (wid_pos f n l.2).1
    have := h.2.1
    simp; omega

/-- Every line of a chain is a run of bytes. -/
theorem Chain.mem {f : Nat → Int} {n : Nat} : ∀ {a b : Nat} {L : List (Nat × Nat)}, Chain f n a L b → ∀ l ∈ L, l.1 ≤ l.2 ∧ l.2 < n
  | _, _, [], _, l, hl => by cases hl
  | a, b, x :: L, h, l, hl => by
    rcases List.mem_cons.1 hl with rfl | hl
    · exact ⟨by rw [h.1]; exact h.2.1, h.2.2.1⟩
    · exact Chain.mem h.2.2.2.2.2 l hl

/-- Two chains that both run to where no line end is left are one. -/
theorem Chain.unique {f : Nat → Int} {n : Nat} : ∀ {a b c : Nat} {L M : List (Nat × Nat)}, Chain f n a L b → Chain f n a M c → (∀ j, b ≤ j → j < n → ¬ isE (f j)) → (∀ j, c ≤ j → j < n → ¬ isE (f j)) → L = M ∧ b = c
  | a, b, c, [], [], h, k, _, _ => ⟨rfl, by have h' : a = b := h; have k' : a = c := k; omega⟩
  | a, b, c, [], m :: M, h, k, hb, _ => by
    have h' : a = b := h
    exact absurd k.2.2.2.1 (hb m.2 (by rw [← h']; exact k.2.1) k.2.2.1)
  | a, b, c, l :: L, [], h, k, _, hc => by
    have k' : a = c := k
    exact absurd h.2.2.2.1 (hc l.2 (by rw [← k']; exact h.2.1) h.2.2.1)
  | a, b, c, l :: L, m :: M, h, k, hb, hc => by
    have e2 : l.2 = m.2 := first_unique h.2.1 k.2.1 h.2.2.2.1 k.2.2.2.1 h.2.2.2.2.1 k.2.2.2.2.1
    have e1 : l.1 = m.1 := h.1.trans k.1.symm
    obtain rfl : l = m := Prod.ext e1 e2
    obtain ⟨rfl, rfl⟩ := Chain.unique h.2.2.2.2.2 k.2.2.2.2.2 hb hc
    exact ⟨rfl, rfl⟩

/-- A line end that is settled within the first m bytes is as wide as in the whole. -/
theorem wid_of (f : Nat → Int) (m n i : Nat) (hm : m ≤ n) (hi : i < m) (h : ¬ (f i = 13 ∧ i + 1 = m ∧ m < n)) : wid f m i = wid f n i := by
  unfold wid
  by_cases h13 : f i = 13
  · by_cases h1 : i + 1 < m
    · have : i + 1 < n := by omega
      simp [h13, h1, this]
    · have e : i + 1 = m := by omega
      have : ¬ i + 1 < n := fun hn => h ⟨h13, e, by omega⟩
      simp [h13, h1, this]
  · simp [h13]

end Go.Proofs.Qxb6000583aDoor
