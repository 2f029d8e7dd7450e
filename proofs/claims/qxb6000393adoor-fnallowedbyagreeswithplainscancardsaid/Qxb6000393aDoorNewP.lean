/-
  The world of NewRules, in plain words.
-/
import Derived.Test.Qxb6000393aDoorStOf
import Derived.Test.Qxb6000393aDoorMap
namespace Go.Proofs.Qxb6000393aDoor
open Go.RowKit

def ps0 : PS := (0, 0, 0, [], [])
def ptr (s : PS) : Value := .pointer (some ⟨s.1, s.2.1, none⟩)
/-- The pattern holds a star. -/
def star (p : List UInt8) : Bool := decide (0 ≤ Lib.indexByte p 42)
/-- The statements that list x as a pattern without a star, of these (statement, pattern) pairs. -/
def lits (D : List (PS × List UInt8)) (x : List UInt8) : List PS := (D.filter fun d => !star d.2 && x == d.2).map (·.1)
theorem lits_star (D : List (PS × List UInt8)) (s : PS) (p x : List UInt8) (h : star p = true) : lits (D ++ [(s, p)]) x = lits D x := by
  unfold lits; rw [List.filter_append]; simp [h]
theorem lits_lit (D : List (PS × List UInt8)) (s : PS) (p x : List UInt8) (h : star p = false) : lits (D ++ [(s, p)]) x = if x = p then lits D x ++ [s] else lits D x := by
  unfold lits; rw [List.filter_append]
  by_cases hx : x = p
  · subst hx; simp [h]
  · rw [if_neg hx]; simp [hx]
theorem lits_len (D : List (PS × List UInt8)) (x : List UInt8) : (lits D x).length ≤ D.length := by unfold lits; rw [List.length_map]; exact List.length_filter_le _ _

theorem look_put : ∀ (M : List (List UInt8 × Value)) (x y : List UInt8) (u : Value), look (putM M x u) y = if y = x then some u else look M y
  | [], x, y, u => by
    unfold putM look
    by_cases h : y = x
    · subst h; simp
    · simp [h, look]
  | (k, v) :: M, x, y, u => by
    unfold putM
    by_cases hxk : x = k
    · subst hxk
      simp only [beq_self_eq_true, if_true]
      unfold look
      by_cases h : y = x
      · subst h; simp
      · simp [h]
    · have hb : (x == k) = false := by simp [hxk]
      rw [hb]
      simp only [Bool.false_eq_true, if_false]
      unfold look
      by_cases hyk : y = k
      · subst hyk
        have : ¬ y = x := fun e => hxk e.symm
        simp [this]
      · have hb2 : (y == k) = false := by simp [hyk]
        rw [hb2]
        simp only [Bool.false_eq_true, if_false]
        exact look_put M x y u

/-- The value that the map gives at a key. -/
def val (M : List (List UInt8 × Value)) (x : List UInt8) : Value := (look M x).getD (.slice none 0 0)
theorem val_put (M : List (List UInt8 × Value)) (x y : List UInt8) (u : Value) : val (putM M x u) y = if y = x then u else val M y := by
  unfold val; rw [look_put]; by_cases h : y = x
  · rw [if_pos h, if_pos h]; rfl
  · rw [if_neg h, if_neg h]

/-- The map's rows: for each key a row of pointers of its own. -/
def RowsM (B : Nat) (D : List (PS × List UInt8)) (M : List (List UInt8 × Value)) (wr : World) : Prop :=
  MapAt wr B M ∧ (∀ x, wr.ownsRow (B + 2) 58 1 (val M x) (lits D x).length ((lits D x).map ptr)) ∧ ∀ x y g, x ≠ y → (val M x).ownBlock = some g → (val M y).ownBlock ≠ some g

/-- The list of starred patterns. -/
abbrev QS := PS × List (List UInt8)
def QRow (B c0 : Nat) (vst : Value) (Q : List QS) (wr : World) : Prop :=
  ∃ K : List (QS × Value), K.map (·.1) = Q ∧ wr.ownsRow (B + 2) 61 2 vst Q.length (K.flatMap fun d => [ptr d.1.1, d.2]) ∧ ∀ d ∈ K, StrsB (fun b => B + 2 ≤ b ∧ b < c0) wr d.2 d.1.2

def NR (B : Nat) (w : World) (c0 : Nat) (vst : Value) (D : List (PS × List UInt8)) (Q : List QS) (wr : World) : Prop :=
  Below B w wr ∧ B + 2 ≤ c0 ∧ c0 ≤ wr.heap.size ∧ wr.heap[B + 1]? = some (.cells #[.map (some B), vst] 57 (0, 0)) ∧ (∃ M, RowsM B D M wr) ∧ QRow B c0 vst Q wr

theorem lt_of_heap {w : World} {b : Nat} {o : Obj} (h : w.heap[b]? = some o) : b < w.heap.size := (Array.getElem?_eq_some_iff.1 h).1

theorem QRow.keep {B c0 : Nat} {vst : Value} {Q : List QS} {wr wr' : World} (h : QRow B c0 vst Q wr)
    (h1 : ∀ b cs, B + 2 ≤ b → wr.heap[b]? = some (.cells cs 61 (0, 0)) → wr'.heap[b]? = wr.heap[b]?) (h2 : ∀ b cs, B + 2 ≤ b → b < c0 → wr.heap[b]? = some (.cells cs 9 (0, 0)) → wr'.heap[b]? = wr.heap[b]?) : QRow B c0 vst Q wr' := by
  obtain ⟨K, a1, a2, a3⟩ := h
  exact ⟨K, a1, own_keep a2 fun g cs _ hb hg => h1 g cs hb hg, fun d hd => (a3 d hd).keep fun b cs hI hb => h2 b cs hI.1 hI.2 hb⟩

theorem NR.keep {B : Nat} {w : World} {c0 : Nat} {vst : Value} {D : List (PS × List UInt8)} {Q : List QS} {wr wr' : World} (h : NR B w c0 vst D Q wr) (hB : Below B w wr') (hs : wr.heap.size ≤ wr'.heap.size)
    (hk : ∀ b o, B ≤ b → wr.heap[b]? = some o → (c0 ≤ b → ∀ cs, o ≠ .cells cs 9 (0, 0)) → wr'.heap[b]? = wr.heap[b]?) : NR B w c0 vst D Q wr' := by
  obtain ⟨h1, h2, h3, h4, ⟨M, ⟨es, clock, m1, m2⟩, m3, m4⟩, h6⟩ := h
  refine ⟨hB, h2, by omega, ?_, ⟨M, ⟨es, clock, ?_, m2⟩, fun x => own_keep (m3 x) fun g cs _ hb hg => hk g _ (by omega) hg fun _ cs' e => (by cases e), m4⟩, h6.keep (fun b cs hb hg => hk b _ (by omega) hg fun _ cs' e => (by cases e)) (fun b cs hb hlt hg => hk b _ (by omega) hg fun hc => absurd hc (by omega))⟩
  · rw [hk (B + 1) _ (by omega) h4 fun _ cs e => (by cases e)]; exact h4
  · rw [hk B _ (Nat.le_refl _) m1 fun _ cs e => (by cases e)]; exact m1

theorem NR.below {B : Nat} {w : World} {c0 : Nat} {vst : Value} {D : List (PS × List UInt8)} {Q : List QS} {wr wr' : World} (h : NR B w c0 vst D Q wr) (hB : Below wr.heap.size wr wr') : NR B w c0 vst D Q wr' := by
  have h1 := h.1
  have h2 := h.2.1
  have h3 := h.2.2.1
  exact h.keep (h1.trans (hB.mono (by omega))) hB.size fun b o _ hb _ => hB.block b (lt_of_heap hb)

/-- A starred pattern is appended to the statement's own row. -/
theorem NR.starP {B : Nat} {w : World} {c0 : Nat} {vst : Value} {D : List (PS × List UInt8)} {Q : List QS} {wr w5 : World} {o : Obj} {v6 : Value} {n : Nat} {xs : List Value} (h : NR B w c0 vst D Q wr) (hr : wr.ownsRow c0 9 1 v6 n xs) (hg : (wr.alloc o).grownBy w5 v6.ownBlock) {s : PS} {p : List UInt8} (hp : star p = true) : NR B w c0 vst (D ++ [(s, p)]) Q w5 := by
  have hg' := grown_of_alloc hg
  have h1 := h.1
  have h2 := h.2.1
  have h3 := h.2.2.1
  have hk : NR B w c0 vst D Q w5 := by
    refine h.keep (h1.grown hg' (by omega) fun k hk => by have := (own_tag hr hk).1; omega) hg'.size fun b o _ hb hno => hg'.block b (lt_of_heap hb) fun e => ?_
    obtain ⟨hc, cs, ht⟩ := own_tag hr e.symm
    rw [hb] at ht
    exact hno hc cs (Option.some.inj ht)
  obtain ⟨a1, a2, a3, a4, ⟨M, m1, m2, m3⟩, a6⟩ := hk
  exact ⟨a1, a2, a3, a4, ⟨M, m1, fun x => by rw [lits_star _ _ _ _ hp]; exact m2 x, m3⟩, a6⟩

/-- A pattern without a star: the map's row at it is appended to, and laid anew. -/
theorem NR.lit {B : Nat} {w : World} {c0 : Nat} {vst : Value} {D : List (PS × List UInt8)} {Q : List QS} {wr : World} (h : NR B w c0 vst D Q wr) {v6 : Value} {n6 : Nat} {xs6 : List Value} (h6 : wr.ownsRow c0 9 1 v6 n6 xs6) (x : List UInt8) (hx : star x = false) (s : PS) :
    ∃ vx, (Instr.lookup 54 (.map (some B)) (S x) false).run Tryd.prog wr = .ok vx wr ∧ (∀ o, (Instr.lookup 54 (.map (some B)) (S x) false).run Tryd.prog (wr.alloc o) = .ok vx (wr.alloc o)) ∧ wr.ownsRow (B + 2) 58 1 vx (lits D x).length ((lits D x).map ptr) ∧
      ∀ o g cap w5, w5.ownsRow (B + 2) 58 1 (.slice (some ⟨g, 0, none⟩) ((lits D x).length + 1) cap) ((lits D x).length + 1) ((lits D x).map ptr ++ [ptr s]) → (wr.alloc o).grownBy w5 vx.ownBlock → (vx.ownBlock = some g ∨ g = wr.heap.size + 1) →
        w5.cell? ⟨B + 1, 0, none⟩ = some (.map (some B)) ∧
        ∃ w6, (Instr.mapUpdate 54 (.map (some B)) (S x) (.slice (some ⟨g, 0, none⟩) ((lits D x).length + 1) cap)).run Tryd.prog w5 = .ok () w6 ∧ w6.cell? ⟨B + 1, 0, none⟩ = some (.map (some B)) ∧ NR B w c0 vst (D ++ [(s, x)]) Q w6 ∧ w6.ownsRow c0 9 1 v6 n6 xs6 := by
  obtain ⟨h1, h2, h3, h4, ⟨M, hM, m2, m3⟩, hQ⟩ := h
  have hMb : ∀ o, MapAt (wr.alloc o) B M := fun o => by
    obtain ⟨es, clock, e1, e2⟩ := hM
    exact ⟨es, clock, by rw [Below.heap_alloc _ _ _ (lt_of_heap e1)]; exact e1, e2⟩
  refine ⟨val M x, look_run hM x, fun o => look_run (hMb o) x, m2 x, fun o g cap w5 ho hg hgg => ?_⟩
  have hg' := grown_of_alloc hg
  have hs5 : wr.heap.size + 1 ≤ w5.heap.size := by have := hg.size; simpa using this
  have hk5 : ∀ b o, wr.heap[b]? = some o → (∀ cs, o ≠ Obj.cells cs 58 (0, 0)) → w5.heap[b]? = wr.heap[b]? := fun b o hb hno => hg'.block b (lt_of_heap hb) fun e => by
    obtain ⟨hc, cs, ht⟩ := own_tag (m2 x) e.symm
    rw [hb] at ht
    exact hno cs (Option.some.inj ht)
  have h45 : w5.heap[B + 1]? = some (.cells #[.map (some B), vst] 57 (0, 0)) := by rw [hk5 _ _ h4 fun cs e => (by cases e)]; exact h4
  have hM5 : MapAt w5 B M := by
    obtain ⟨es, clock, e1, e2⟩ := hM
    exact ⟨es, clock, by rw [hk5 _ _ e1 fun cs e => (by cases e)]; exact e1, e2⟩
  obtain ⟨w6, hrun, hM6, hg6⟩ := put_run hM5 x (.slice (some ⟨g, 0, none⟩) ((lits D x).length + 1) cap)
  have hk6 : ∀ b o, B + 1 ≤ b → w5.heap[b]? = some o → w6.heap[b]? = w5.heap[b]? := fun b o hB hb => hg6.block b (lt_of_heap hb) fun e => by
    cases e; omega
  have h46 : w6.heap[B + 1]? = some (.cells #[.map (some B), vst] 57 (0, 0)) := by rw [hk6 _ _ (Nat.le_refl _) h45]; exact h45
  have hk : ∀ b o, B + 1 ≤ b → wr.heap[b]? = some o → (∀ cs, o ≠ Obj.cells cs 58 (0, 0)) → w6.heap[b]? = wr.heap[b]? := fun b o hB hb hno => by
    have e5 := hk5 b o hb hno
    rw [hk6 b o hB (e5.trans hb), e5]
  have hs6 := hg6.size
  have hBw5 : Below B w w5 := h1.grown hg' (by omega) fun k hk => by have := (own_tag (m2 x) hk).1; omega
  have hBw6 : Below B w w6 := hBw5.grown hg6 (by have := lt_of_heap h45; omega) fun k hk => by cases hk; exact Nat.le_refl _
  refine ⟨by rw [cell_of_row _ _ _ _ _ _ h45]; rfl, w6, hrun, by rw [cell_of_row _ _ _ _ _ _ h46]; rfl, ⟨hBw6, h2, by omega, h46, ⟨_, hM6, fun y => ?_, fun y z gg hyz hy => ?_⟩, hQ.keep (fun b cs hb hc => hk b _ (by omega) hc fun _ e => (by cases e)) (fun b cs hb _ hc => hk b _ (by omega) hc fun _ e => (by cases e))⟩, own_keep h6 fun b cs _ hb hc => hk b _ (by omega) hc fun _ e => (by cases e)⟩
  · rw [val_put, lits_lit _ _ _ _ hx]
    by_cases hyx : y = x
    · subst hyx
      rw [if_pos rfl, if_pos rfl, List.length_append, List.map_append]
      exact own_keep ho fun b cs _ hb hc => hk6 b _ (by omega) hc
    · rw [if_neg hyx, if_neg hyx]
      exact own_keep (own_keep (m2 y) fun b cs hown hb hc => hg'.block b (lt_of_heap hc) fun e => m3 y x b hyx hown e.symm) fun b cs _ hb hc => hk6 b _ (by omega) hc
  · rw [val_put] at hy ⊢
    by_cases hyx : y = x
    · have hzx : ¬ z = x := fun e => hyz (hyx.trans e.symm)
      rw [if_pos hyx] at hy
      rw [if_neg hzx]
      have hgg' : g = gg := by cases hy; rfl
      subst hgg'
      rcases hgg with hgg | hgg
      · exact m3 x z g (fun e => hzx e.symm) hgg
      · intro e
        have := lt_of_heap (own_tag (m2 z) e).2.choose_spec
        omega
    · rw [if_neg hyx] at hy
      by_cases hzx : z = x
      · rw [if_pos hzx]
        intro e
        have hgg' : g = gg := by cases e; rfl
        subst hgg'
        rcases hgg with hgg | hgg
        · exact m3 y x g hyx hy hgg
        · have := lt_of_heap (own_tag (m2 y) hy).2.choose_spec
          omega
      · rw [if_neg hzx]
        exact m3 y z gg hyz hy

/-- A statement's starred patterns are appended to the list. -/
theorem NR.push {B : Nat} {w : World} {c0 : Nat} {vst : Value} {D : List (PS × List UInt8)} {Q : List QS} {wr : World} (h : NR B w c0 vst D Q wr) {p6 : Option Addr} {n6 c6 : Nat} {P : List (List UInt8)} (hn : P.length = n6) (h6 : wr.ownsRow c0 9 1 (.slice p6 n6 c6) n6 (P.map S)) (s : PS) :
    ∃ xs, wr.ownsRow (B + 2) 61 2 vst Q.length xs ∧ wr.cell? ⟨B + 1, 1, none⟩ = some vst ∧
      ∀ o g cap w5, w5.ownsRow (B + 2) 61 2 (.slice (some ⟨g, 0, none⟩) (Q.length + 1) cap) (Q.length + 1) (xs ++ [ptr s, .slice p6 n6 c6]) → (wr.alloc o).grownBy w5 vst.ownBlock →
        w5.cell? ⟨B + 1, 1, none⟩ = some vst ∧ w5.frozen? ⟨B + 1, 1, none⟩ = false ∧ NR B w w5.heap.size (.slice (some ⟨g, 0, none⟩) (Q.length + 1) cap) D (Q ++ [(s, P)]) (w5.setCell ⟨B + 1, 1, none⟩ (.slice (some ⟨g, 0, none⟩) (Q.length + 1) cap)) := by
  obtain ⟨h1, h2, h3, h4, ⟨M, ⟨es, clock, m0, m1⟩, m2, m3⟩, K, k1, k2, k3⟩ := h
  refine ⟨_, k2, by rw [cell_of_row _ _ _ _ _ _ h4]; rfl, fun o g cap w5 ho hg => ?_⟩
  have hg' := grown_of_alloc hg
  have hs5 : wr.heap.size + 1 ≤ w5.heap.size := by have := hg.size; simpa using this
  have hk5 : ∀ b o, wr.heap[b]? = some o → (∀ cs, o ≠ Obj.cells cs 61 (0, 0)) → w5.heap[b]? = wr.heap[b]? := fun b o hb hno => hg'.block b (lt_of_heap hb) fun e => by
    obtain ⟨hc, cs, ht⟩ := own_tag k2 e.symm
    rw [hb] at ht
    exact hno cs (Option.some.inj ht)
  have h45 : w5.heap[B + 1]? = some (.cells #[.map (some B), vst] 57 (0, 0)) := by rw [hk5 _ _ h4 fun cs e => (by cases e)]; exact h4
  have hBw5 : Below B w w5 := h1.grown hg' (by omega) fun k hk => by have := (own_tag k2 hk).1; omega
  refine ⟨by rw [cell_of_row _ _ _ _ _ _ h45]; rfl, frozen_of_row _ _ _ _ _ h45, ?_⟩
  have hset : ∀ b, b ≠ B + 1 → (w5.setCell ⟨B + 1, 1, none⟩ (.slice (some ⟨g, 0, none⟩) (Q.length + 1) cap)).heap[b]? = w5.heap[b]? := fun b hb => heap_setCell_other _ _ _ _ hb
  have hk : ∀ b o, b ≠ B + 1 → wr.heap[b]? = some o → (∀ cs, o ≠ Obj.cells cs 61 (0, 0)) → (w5.setCell ⟨B + 1, 1, none⟩ (.slice (some ⟨g, 0, none⟩) (Q.length + 1) cap)).heap[b]? = wr.heap[b]? := fun b o hne hb hno => by rw [hset b hne, hk5 b o hb hno]
  refine ⟨hBw5.setCell (by simp) _, by omega, by simp, by rw [heap_setCell_same _ _ _ _ _ _ h45]; rfl, ⟨M, ⟨es, clock, by rw [hk B _ (by omega) m0 fun _ e => (by cases e)]; exact m0, m1⟩, fun x => own_keep (m2 x) fun b cs _ hb hc => hk b _ (by omega) hc fun _ e => (by cases e), m3⟩, K ++ [((s, P), .slice p6 n6 c6)], by simp [k1], ?_, fun d hd => ?_⟩
  · rw [List.length_append, List.flatMap_append]
    exact own_keep (by simpa using ho) fun b cs _ hb _ => hset b (by omega)
  · rcases List.mem_append.1 hd with hd | hd
    · exact ((k3 d hd).keep fun b cs hI hc => hk b _ (by omega) hc fun _ e => (by cases e)).le fun b hb hI => ⟨hI.1, by simpa using hb⟩
    · rw [List.mem_singleton] at hd
      subst hd
      obtain ⟨p, c, e, h7⟩ := row_form' h6
      cases e
      refine ⟨p6, c6, by rw [hn], fun h0 => ?_⟩
      dsimp only at h0
      obtain ⟨b, cs, hb, hp, hc, hcs⟩ := h7 (by omega)
      refine ⟨b, cs, ⟨by omega, ?_⟩, hp, by rw [hk b _ (by omega) hc fun _ e => (by cases e)]; exact hc, fun j hj => ?_⟩
      · have := lt_of_heap hc; simp; omega
      · dsimp only at hj
        have := hcs j (by omega)
        rw [this, List.getElem?_map, List.getElem?_eq_getElem hj]
        rfl

end Go.Proofs.Qxb6000393aDoor
