/-
  What the chunked reading keeps in memory: the lines that it has got, each in a block of its own; laws on worlds, no walk.
-/
import Derived.Test.Qxb6000583aDoorChain
import Derived.Deep.AppendLies
namespace Go.Proofs.Qxb6000583aDoor
open Go.RowKit

/-- v holds a copy of the line l, in a block that is not vb's. -/
def LineAt (w : World) (vb : Value) (f : Nat → Int) (v : Value) (l : Nat × Nat) : Prop :=
  ∃ b, v = .slice (some ⟨b, 0, none⟩) (l.2 - l.1) (l.2 - l.1) ∧ vb.ownBlock ≠ some b ∧ b < w.heap.size ∧ w.heap[b]? = some (.cells (clo (fun j => f (l.1 + j)) (l.2 - l.1) (l.2 - l.1)) 5 (0, 0))

/-- vg owns the row of the lines G. -/
def Got (B : Nat) (vb : Value) (f : Nat → Int) (vg : Value) (G : List (Nat × Nat)) (w : World) : Prop :=
  ∃ vs, w.ownsRow B 22 1 vg G.length vs ∧ ∀ (k : Nat) (v : Value) (l : Nat × Nat), vs[k]? = some v → G[k]? = some l → LineAt w vb f v l

theorem LineAt.seg {w : World} {vb : Value} {f : Nat → Int} {v : Value} {l : Nat × Nat} (h : LineAt w vb f v l) : ∃ q, v = .slice q (l.2 - l.1) (l.2 - l.1) ∧ Seg w q (l.2 - l.1) (fun j => f (l.1 + j)) := by
  obtain ⟨b, rfl, _, _, hb⟩ := h
  refine ⟨_, rfl, fun _ => ⟨b, 0, rfl, fun j hj => ?_⟩⟩
  rw [Nat.zero_add, World.cell?]
  simp only [hb]
  have := clo_at (fun j => f (l.1 + j)) (l.2 - l.1) (l.2 - l.1) j hj
  rw [if_pos hj] at this
  simpa using this

/-- A line stays where its block does. -/
theorem LineAt.keep {w w' : World} {vb vb' : Value} {f : Nat → Int} {v : Value} {l : Nat × Nat} (h : LineAt w vb f v l) (hs : w.heap.size ≤ w'.heap.size)
    (hk : ∀ b, b < w.heap.size → vb.ownBlock ≠ some b → (∃ cs, w.heap[b]? = some (.cells cs 5 (0, 0))) → w'.heap[b]? = w.heap[b]? ∧ vb'.ownBlock ≠ some b) : LineAt w' vb' f v l := by
  obtain ⟨b, rfl, h1, h2, h3⟩ := h
  obtain ⟨k1, k2⟩ := hk b h2 h1 ⟨_, h3⟩
  exact ⟨b, rfl, k2, by omega, by rw [k1]; exact h3⟩

/-- Two rows of different element types lie in different blocks. -/
theorem rows_apart {w : World} {B B' : Nat} {v v' : Value} {n n' : Nat} {xs xs' : List Value} {e e' : TypeId} (hee : e ≠ e') (h : w.ownsRow B e 1 v n xs) (h' : w.ownsRow B' e' 1 v' n' xs') : v.ownBlock = none ∨ v.ownBlock ≠ v'.ownBlock := by
  rcases h.2 with ⟨rfl, _⟩ | ⟨g, cap, cur, rfl, _, hg, _⟩
  · exact Or.inl rfl
  · rcases h'.2 with ⟨rfl, _⟩ | ⟨g', cap', cur', rfl, _, hg', _⟩
    · exact Or.inr (by simp [Value.ownBlock])
    · refine Or.inr fun he => ?_
      have : g = g' := by simpa [Value.ownBlock] using he
      subst this
      rw [hg] at hg'
      simp at hg'
      exact hee hg'.2

/-- The row of lines behind a world in which what lay stands. -/
theorem Got.below {B : Nat} {vb : Value} {f : Nat → Int} {vg : Value} {G : List (Nat × Nat)} {w w' : World} (h : Got B vb f vg G w) (hB : Below w.heap.size w w') : Got B vb f vg G w' := by
  obtain ⟨vs, h1, h2⟩ := h
  refine ⟨vs, h1.kept (row := none) ⟨hB.os, hB.tape, hB.output, hB.size, fun k hk _ => hB.block k hk⟩ ?_, fun k v l hv hl => (h2 k v l hv hl).keep hB.size fun b hb hv _ => ⟨hB.block b hb, hv⟩⟩
  cases hv : vg.ownBlock
  · exact Or.inl rfl
  · exact Or.inr (by simp)

/-- The row of lines behind an append to the buffer. -/
theorem Got.buf {B B' : Nat} {vb vb' : Value} {f : Nat → Int} {vg : Value} {G : List (Nat × Nat)} {w w' : World} {n : Nat} {xs : List Value} {H : Nat} (h : Got B vb f vg G w) (hv : w.ownsRow B' 5 1 vb n xs) (hg : w.grownBy w' vb.ownBlock)
    (hH : w.heap.size ≤ H) (hb : vb'.ownBlock = vb.ownBlock ∨ vb'.ownBlock = some H) : Got B vb' f vg G w' := by
  obtain ⟨vs, h1, h2⟩ := h
  refine ⟨vs, h1.kept hg (rows_apart (by decide) h1 hv), fun k v l hv hl => (h2 k v l hv hl).keep hg.size fun b hb' hv _ => ⟨hg.block b hb' (fun e => hv e.symm), ?_⟩⟩
  rcases hb with e | e
  · rw [e]; exact hv
  · rw [e]; intro e'; have : H = b := by simpa using e'
    omega

/-- The row of lines with one line more. -/
theorem Got.push {B : Nat} {vb : Value} {f : Nat → Int} {vg vg' : Value} {G : List (Nat × Nat)} {w w' : World} {vs : List Value} {v : Value} {l : Nat × Nat} (h1 : w.ownsRow B 22 1 vg G.length vs)
    (h2 : ∀ (k : Nat) (v : Value) (l : Nat × Nat), vs[k]? = some v → G[k]? = some l → LineAt w vb f v l) (hn : LineAt w vb f v l) (ho : w'.ownsRow B 22 1 vg' (G.length + 1) (vs ++ [v])) (hg : w.grownBy w' vg.ownBlock) : Got B vb f vg' (G ++ [l]) w' := by
  have hlen : vs.length = G.length := by have := h1.1; omega
  have hk : ∀ v l, LineAt w vb f v l → LineAt w' vb f v l := fun v l h => h.keep hg.size fun b hb hv ⟨cs, hc⟩ => ⟨hg.block b hb (fun e => by
    rcases h1.2 with ⟨rfl, _⟩ | ⟨g, cap, cur, rfl, _, hgg, _⟩
    · simp [Value.ownBlock] at e
    · have : b = g := by simpa [Value.ownBlock] using e
      subst this
      rw [hc] at hgg
      simp at hgg), hv⟩
  refine ⟨vs ++ [v], by simpa using ho, fun k u m hu hm => ?_⟩
  by_cases hk' : k < G.length
  · rw [List.getElem?_append_left (by omega)] at hu
    rw [List.getElem?_append_left hk'] at hm
    exact hk _ _ (h2 k u m hu hm)
  · have hkl : k < (G ++ [l]).length := by
      rcases Nat.lt_or_ge k (G ++ [l]).length with h | h
      · exact h
      · rw [List.getElem?_eq_none h] at hm; cases hm
    have e : k = G.length := by simp at hkl; omega
    subst e
    rw [List.getElem?_append_right (Nat.le_refl _)] at hm
    rw [List.getElem?_append_right (by omega)] at hu
    simp at hm
    simp [hlen] at hu
    subst hm; subst hu
    exact hk _ _ hn

end Go.Proofs.Qxb6000583aDoor
