/-
  Plain laws: what EntityTags takes off a field's value; the world of EntityTags.
-/
import Derived.Test.Qxb6000766aDoorTag
import Derived.Deep.AppendLies
import Derived.Laws.Rows
namespace Go.Proofs.Qxb6000766aDoor
open Go.RowKit

def T3 (l : List UInt8) : List UInt8 := Lib.trimLeftS l [32, 9, 44]
def T2 (l : List UInt8) : List UInt8 := Lib.trimLeftS l [32, 9]

/-- The value, its leading blanks and commas off, is these elements, each followed by blanks and a comma or the end. -/
def GoodT : List (List UInt8) → List UInt8 → Prop
  | [], v => v = []
  | e :: es, v => ∃ r, v = e ++ r ∧ (e = [42] ∨ IsTag e) ∧ (T2 r = [] ∨ ∃ r', T2 r = 44 :: r') ∧ GoodT es (T3 (T2 r))

theorem len_dropWhile (p : UInt8 → Bool) (l : List UInt8) : (l.dropWhile p).length ≤ l.length := (List.dropWhile_sublist p).length_le
theorem T3_le (l : List UInt8) : (T3 l).length ≤ l.length := len_dropWhile _ l
theorem T2_le (l : List UInt8) : (T2 l).length ≤ l.length := len_dropWhile _ l
theorem el_pos {e : List UInt8} (h : e = [42] ∨ IsTag e) : 0 < e.length := by
  rcases h with rfl | ⟨weak, body, _, rfl⟩
  · decide
  · simp; omega

/-- The elements that are no star. -/
def ns (D : List (List UInt8)) : List (List UInt8) := D.filter (fun e => e != [42])
theorem ns_le (D : List (List UInt8)) : (ns D).length ≤ D.length := List.length_filter_le _ _

theorem trim3 (l : List UInt8) (w : World) : Calls Tryd.prog 20 #[S l, .string ⟨#[32, 9, 44]⟩] w fun e w' => e = .returned (S (T3 l)) ∧ Below w.heap.size w w' := by
  have h := Any.strings_TrimLeft_laid Tryd.lays161 (by kernel_rfl) ⟨l.toArray⟩ ⟨#[32, 9, 44]⟩ w (by decide) (fun j b hj => by
    match j, hj with
    | 0, hj => cases hj; decide
    | 1, hj => cases hj; decide
    | 2, hj => cases hj; decide
    | j + 3, hj => cases hj)
  exact h
theorem trim2 (l : List UInt8) (w : World) : Calls Tryd.prog 20 #[S l, .string ⟨#[32, 9]⟩] w fun e w' => e = .returned (S (T2 l)) ∧ Below w.heap.size w w' := by
  have h := Any.strings_TrimLeft_laid Tryd.lays161 (by kernel_rfl) ⟨l.toArray⟩ ⟨#[32, 9]⟩ w (by decide) (fun j b hj => by
    match j, hj with
    | 0, hj => cases hj; decide
    | 1, hj => cases hj; decide
    | j + 2, hj => cases hj)
  exact h

theorem own_of_block {w w' : World} {B : Nat} {e : TypeId} {v : Value} {n : Nat} {xs : List Value} (h : w.ownsRow B e 1 v n xs) (hk : ∀ g, v.ownBlock = some g → w'.heap[g]? = w.heap[g]?) : w'.ownsRow B e 1 v n xs := by
  refine ⟨h.1, ?_⟩
  rcases h.2 with h | ⟨g, cap, cur, rfl, h1, h2, h3⟩
  · exact Or.inl h
  · exact Or.inr ⟨g, cap, cur, rfl, h1, by rw [hk g rfl]; exact h2, h3⟩
theorem row_form {w : World} {B : Nat} {e : TypeId} {v : Value} {n : Nat} {xs : List Value} (h : w.ownsRow B e 1 v n xs) : ∃ p c, v = .slice p n c ∧ (0 < n → ∃ g, p = some ⟨g, 0, none⟩ ∧ ∀ t, t < n → w.cell? ⟨g, t, none⟩ = xs[t]?) := by
  rcases h.2 with ⟨rfl, rfl⟩ | ⟨g, cap, cur, rfl, _, _, _⟩
  · exact ⟨none, 0, rfl, fun h => absurd h (Nat.lt_irrefl 0)⟩
  · exact ⟨_, cap, rfl, fun _ => ⟨g, rfl, fun t ht => h.cellAt t (by omega)⟩⟩
theorem cells_new (w : World) (cs : List Value) (t : TypeId) (g : Nat) (hg : g = w.heap.size) : ∀ (j : Nat) (u : Value), cs[j]? = some u → (w.alloc (.cells cs.toArray t)).cell? ((⟨g, 0, none⟩ : Addr).add j) = some u := by
  subst hg
  intro j u hu
  rw [add_pl, Nat.zero_add, cell_of_row _ _ _ _ _ _ (heap_alloc_new w (.cells cs.toArray t))]
  simpa using hu

/-- EntityTags's world: its result (block h), t (block h + 1), the list's own row. -/
def Ent (w : World) (D : List (List UInt8)) (vl : Value) (wr : World) : Prop :=
  wr.heap[w.heap.size + 1]? = some (.cells #[.bool (D.contains [42]), vl] 33 (0, 0)) ∧ wr.heap[w.heap.size]? = some (.cells #[.bool false, .slice none 0 0] 33 (0, 0)) ∧
  wr.ownsRow (w.heap.size + 2) 9 1 vl (ns D).length ((ns D).map S) ∧ Below w.heap.size w wr ∧ w.heap.size + 2 ≤ wr.heap.size

theorem Ent.start (w : World) : Ent w [] (.slice none 0 0) ((w.alloc (.cells #[.bool false, .slice none 0 0] 33)).alloc (.cells #[.bool false, .slice none 0 0] 33)) := by
  refine ⟨?_, ?_, World.ownsRow_nil _ _ _ _, ((Below.refl _ w).alloc (Nat.le_refl _) _).alloc (by simp) _, by simp⟩
  · have := heap_alloc_new (w.alloc (.cells #[.bool false, .slice none 0 0] 33)) (.cells #[.bool false, .slice none 0 0] 33)
    simpa using this
  · rw [Below.heap_alloc _ _ _ (by simp)]
    exact heap_alloc_new w _

theorem Ent.below {w wr wr' : World} {D : List (List UInt8)} {vl : Value} (h : Ent w D vl wr) (hB : Below wr.heap.size wr wr') : Ent w D vl wr' := by
  obtain ⟨h1, h2, h3, h4, h5⟩ := h
  have hs := hB.size
  exact ⟨by rw [hB.block _ (by omega)]; exact h1, by rw [hB.block _ (by omega)]; exact h2, own_of_block h3 fun g hg => hB.block g (h3.lt g hg).2, h4.trans (hB.mono (by omega)), by omega⟩

theorem Ent.star {w wr : World} {D : List (List UInt8)} {vl : Value} (h : Ent w D vl wr) : Ent w (D ++ [[42]]) vl (wr.setCell ⟨w.heap.size + 1, 0, none⟩ (.bool true)) := by
  obtain ⟨h1, h2, h3, h4, h5⟩ := h
  have hn : ns (D ++ [[42]]) = ns D := by unfold ns; rw [List.filter_append]; simp
  refine ⟨?_, ?_, ?_, h4.setCell (by simp) _, by simpa using h5⟩
  · rw [heap_setCell_same _ _ _ _ _ _ h1]
    simp
  · rw [heap_setCell_other _ _ _ _ (by simp)]; exact h2
  · rw [hn]; exact ownsRow_setCell_below h3 (by simp) _

theorem Ent.push {w wr w5 : World} {D : List (List UInt8)} {vl v' : Value} {o : Obj} {e : List UInt8} (h : Ent w D vl wr) (he : e ≠ [42])
    (ho : w5.ownsRow (w.heap.size + 2) 9 1 v' ((ns D).length + 1) ((ns D).map S ++ [S e])) (hg : (wr.alloc o).grownBy w5 vl.ownBlock) : Ent w (D ++ [e]) v' (w5.setCell ⟨w.heap.size + 1, 1, none⟩ v') ∧ w5.cell? ⟨w.heap.size + 1, 1, none⟩ = some vl ∧ w5.frozen? ⟨w.heap.size + 1, 1, none⟩ = false := by
  obtain ⟨h1, h2, h3, h4, h5⟩ := h
  have hn : ns (D ++ [e]) = ns D ++ [e] := by unfold ns; rw [List.filter_append]; simp [he]
  have hs : wr.heap.size + 1 ≤ w5.heap.size := by have := hg.size; simpa using this
  have hk : ∀ k, k < w.heap.size + 2 → w5.heap[k]? = wr.heap[k]? := fun k hk => by
    rw [hg.block k (by simp; omega) (fun e => by have := (h3.lt k e.symm).1; omega), Below.heap_alloc _ _ _ (by omega)]
  have b1 := (hk (w.heap.size + 1) (by omega)).trans h1
  have hb : Below w.heap.size w w5 := (h4.alloc (by omega) o).grown hg (by simp; omega) fun k hk => by have := (h3.lt k hk).1; omega
  refine ⟨⟨?_, ?_, ?_, hb.setCell (by simp) _, by simp; omega⟩, ?_, frozen_of_row _ _ _ _ _ b1⟩
  · rw [heap_setCell_same _ _ _ _ _ _ b1]
    simp
    intro h; exact absurd h.symm he
  · rw [heap_setCell_other _ _ _ _ (by simp), hk _ (by omega)]; exact h2
  · rw [hn]
    have := ownsRow_setCell_below (u := v') (a := ⟨w.heap.size + 1, 1, none⟩) ho (by simp)
    simpa using this
  · rw [cell_of_row _ _ _ _ _ _ b1]; rfl

theorem Ent.cells {w wr : World} {D : List (List UInt8)} {vl : Value} (h : Ent w D vl wr) : wr.cell? ⟨w.heap.size + 1, 0, none⟩ = some (.bool (D.contains [42])) ∧ wr.cell? ⟨w.heap.size + 1, 1, none⟩ = some vl ∧ wr.frozen? ⟨w.heap.size + 1, 0, none⟩ = false ∧
    wr.cell? ⟨w.heap.size, 0, none⟩ = some (.bool false) ∧ wr.cell? ⟨w.heap.size, 1, none⟩ = some (.slice none 0 0) ∧ wr.frozen? ⟨w.heap.size, 0, none⟩ = false ∧ wr.frozen? ⟨w.heap.size, 1, none⟩ = false := by
  obtain ⟨h1, h2, h3, h4, h5⟩ := h
  exact ⟨by rw [cell_of_row _ _ _ _ _ _ h1]; rfl, by rw [cell_of_row _ _ _ _ _ _ h1]; rfl, frozen_of_row _ _ _ _ _ h1, by rw [cell_of_row _ _ _ _ _ _ h2]; rfl, by rw [cell_of_row _ _ _ _ _ _ h2]; rfl, frozen_of_row _ _ _ _ _ h2, frozen_of_row _ _ _ _ _ h2⟩

theorem Ent.shut {w wr : World} {D : List (List UInt8)} {vl a b : Value} (h : Ent w D vl wr) : ((wr.setCell ⟨w.heap.size, 0, none⟩ a).setCell ⟨w.heap.size, 1, none⟩ b).ownsRow (w.heap.size + 2) 9 1 vl (ns D).length ((ns D).map S) ∧ Below w.heap.size w ((wr.setCell ⟨w.heap.size, 0, none⟩ a).setCell ⟨w.heap.size, 1, none⟩ b) := by
  obtain ⟨h1, h2, h3, h4, h5⟩ := h
  exact ⟨ownsRow_setCell_below (ownsRow_setCell_below h3 (by simp) _) (by simp) _, (h4.setCell (by simp) _).setCell (by simp) _⟩

end Go.Proofs.Qxb6000766aDoor
