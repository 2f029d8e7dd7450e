/-
  A map from strings to values, held whole: look-up and store as run facts.
-/
import Derived.Test.Qxb6000393aDoorCov
namespace Go.Proofs.Qxb6000393aDoor
open Go.RowKit

/-- The entries read as this list of keys and values. -/
def Rep (es : List MapEntry) (M : List (List UInt8 × Value)) : Prop := es.map (fun e => (e.key, e.val)) = M.map (fun p => (S p.1, p.2))

/-- The value at a key. -/
def look : List (List UInt8 × Value) → List UInt8 → Option Value
  | [], _ => none
  | (k, v) :: M, x => if x == k then some v else look M x
/-- The list with the key's value laid. -/
def putM : List (List UInt8 × Value) → List UInt8 → Value → List (List UInt8 × Value)
  | [], x, u => [(x, u)]
  | (k, v) :: M, x, u => if x == k then (k, u) :: M else (k, v) :: putM M x u

theorem same_S (a b : List UInt8) : Instr.sameNow .string (S a) (S b) = some (a == b) := by
  show some ((ByteArray.mk a.toArray) == (ByteArray.mk b.toArray)) = some (a == b)
  have : ((ByteArray.mk a.toArray) == (ByteArray.mk b.toArray)) = (a.toArray == b.toArray) := rfl
  rw [this]
  simp

theorem find_rep : ∀ (es : List MapEntry) (M : List (List UInt8 × Value)) (x : List UInt8) (i : Nat), Rep es M →
    (∃ v j, Instr.findNow .string (S x) es i = some (some (i + j, v)) ∧ look M x = some v ∧ j < es.length ∧ (∀ u, Rep (es.modify j (fun e => { e with key := S x, val := u })) (putM M x u)) ∧ (es[j]?).map (·.key) = some (S x)) ∨
    (Instr.findNow .string (S x) es i = some none ∧ look M x = none ∧ ∀ u b, Rep (es ++ [{ key := S x, val := u, born := b }]) (putM M x u))
  | [], M, x, i, h => by
    have hM : M = [] := by
      cases M with
      | nil => rfl
      | cons _ _ => cases h
    subst hM
    exact .inr ⟨rfl, rfl, fun u b => rfl⟩
  | e :: es, M, x, i, h => by
    cases M with
    | nil => cases h
    | cons p M =>
      obtain ⟨k, v⟩ := p
      simp only [Rep, List.map_cons, List.cons.injEq, Prod.mk.injEq] at h
      obtain ⟨⟨hk, hv⟩, ht⟩ := h
      have hs : Instr.sameNow .string (S x) e.key = some (x == k) := by rw [hk]; exact same_S x k
      cases hx : x == k with
      | true =>
        have hxk : x = k := eq_of_beq hx
        refine .inl ⟨v, 0, ?_, ?_, Nat.zero_lt_succ _, fun u => ?_, ?_⟩
        · unfold Instr.findNow; rw [hs, hx]; simp [hv]
        · unfold look; rw [hx]; rfl
        · unfold putM; rw [hx]
          simp [Rep, hxk, ht]
        · simp [hk, hxk]
      | false =>
        rcases find_rep es M x (i + 1) ht with ⟨v', j, h1, h2, h3, h4, h5⟩ | ⟨h1, h2, h3⟩
        · refine .inl ⟨v', j + 1, ?_, ?_, by simpa using h3, fun u => ?_, ?_⟩
          · unfold Instr.findNow; rw [hs, hx]; simp only [h1]; congr 3; omega
          · unfold look; rw [hx]; exact h2
          · have := h4 u
            unfold putM; rw [hx]
            simp only [Rep, List.modify_succ_cons, List.map_cons, hk, hv] at this ⊢
            simp [this]
          · simpa using h5
        · refine .inr ⟨?_, ?_, fun u b => ?_⟩
          · unfold Instr.findNow; rw [hs, hx]; exact h1
          · unfold look; rw [hx]; exact h2
          · have := h3 u b
            unfold putM; rw [hx]
            simp only [Rep, List.cons_append, List.map_cons, hk, hv] at this ⊢
            simp [this]

/-- Block r is a map that reads as M. -/
def MapAt (w : World) (r : Nat) (M : List (List UInt8 × Value)) : Prop := ∃ es clock, w.heap[r]? = some (.map es clock) ∧ Rep es.toList M

theorem check_S (e : Bool) (x : List UInt8) (w : World) : (Instr.checkKey e 10000 9 (S x)).run Tryd.prog w = .ok () w := by
  have h : ∀ n : Nat, (Instr.checkKey e (n + 1) 9 (S x)).run Tryd.prog w = .ok () w := fun n => by
    unfold S
    simp [Instr.checkKey, run_underlying Tryd.underlying9]
  exact h 9999

theorem findKey_S (x : List UInt8) (es : List MapEntry) (r : Option (Nat × Value)) (w : World) (h : Instr.findNow .string (S x) es 0 = some r) : (Instr.findKey 9 (S x) es).run Tryd.prog w = .ok r w := by
  simp [Instr.findKey, run_underlying Tryd.underlying9, h]

theorem look_run {w : World} {r : Nat} {M : List (List UInt8 × Value)} (h : MapAt w r M) (x : List UInt8) : (Instr.lookup 54 (.map (some r)) (S x) false).run Tryd.prog w = .ok ((look M x).getD (.slice none 0 0)) w := by
  obtain ⟨es, clock, hm, hr⟩ := h
  have hg : (getObj r).run Tryd.prog w = .ok (.map es clock) w := by simp [getObj, Sem.run, hm]
  have hz := Tryd.zeroValue50 w
  rcases find_rep es.toList M x 0 hr with ⟨v, j, h1, h2, _⟩ | ⟨h1, h2, _⟩
  · have hf := findKey_S x es.toList _ w h1
    simp [Instr.lookup, run_underlying Tryd.underlying54, hg, check_S, hf, h2]
  · have hf := findKey_S x es.toList _ w h1
    simp [Instr.lookup, run_underlying Tryd.underlying54, hg, check_S, hf, h2, hz]

theorem same_bits (n : Nat) (x : List UInt8) : Instr.sameBits n (S x) (S x) = true := by
  have h : ((ByteArray.mk x.toArray) == (ByteArray.mk x.toArray)) = true := by
    have : ((ByteArray.mk x.toArray) == (ByteArray.mk x.toArray)) = (x.toArray == x.toArray) := rfl
    rw [this]
    simp
  unfold S
  cases n <;> simp [Instr.sameBits, h]

theorem put_run {w : World} {r : Nat} {M : List (List UInt8 × Value)} (h : MapAt w r M) (x : List UInt8) (u : Value) : ∃ w', (Instr.mapUpdate 54 (.map (some r)) (S x) u).run Tryd.prog w = .ok () w' ∧ MapAt w' r (putM M x u) ∧ w.grownBy w' (some r) := by
  obtain ⟨es, clock, hm, hr⟩ := h
  have hlt := (Array.getElem?_eq_some_iff.1 hm).1
  have hg : (getObj r).run Tryd.prog w = .ok (.map es clock) w := by simp [getObj, Sem.run, hm]
  have hs : ∀ o, (setObj r o).run Tryd.prog w = .ok () (w.putObj r o) := fun o => by
    clear hlt
    simp [setObj, Sem.run, World.putObj, hm]
  rcases find_rep es.toList M x 0 hr with ⟨v, j, h1, h2, h3, h4, h5⟩ | ⟨h1, h2, h3⟩
  · have hf := findKey_S x es.toList _ w h1
    rw [Nat.zero_add] at hf
    have hkk : ((es[j]?).map (·.key)).getD (S x) = S x := by
      rw [show es[j]? = es.toList[j]? by simp, h5]; rfl
    have hk : (Instr.keyThatStays (((es[j]?).map (·.key)).getD (S x)) (S x)).run Tryd.prog w = .ok (S x) w := by
      rw [hkk]
      unfold Instr.keyThatStays
      rw [if_pos (same_bits 10000 x)]
      rfl
    refine ⟨w.putObj r (.map (es.modify j fun e => { e with key := S x, val := u }) clock), ?_, ⟨_, clock, World.putObj_heap_same hlt, ?_⟩, grownBy_putObj' w r _⟩
    · unfold Instr.mapUpdate
      simp only [Sem.run_bind, run_underlying Tryd.underlying54, Result.andThen, hg, check_S, hf, hk, hs]
    · have := h4 u
      simpa using this
  · have hf := findKey_S x es.toList _ w h1
    refine ⟨w.putObj r (.map (es.push { key := S x, val := u, born := clock }) (clock + 1)), ?_, ⟨_, clock + 1, World.putObj_heap_same hlt, ?_⟩, grownBy_putObj' w r _⟩
    · simp [Instr.mapUpdate, run_underlying Tryd.underlying54, hg, check_S, hf, hs]
    · have := h3 u clock
      simpa using this

end Go.Proofs.Qxb6000393aDoor
