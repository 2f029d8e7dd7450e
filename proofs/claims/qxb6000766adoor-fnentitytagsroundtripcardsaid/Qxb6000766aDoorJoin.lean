/-
  The plain law (a value of tags and separators is read back) and the main function's state.
-/
import Derived.Test.Qxb6000766aDoorEnt
import Derived.Test.Qxb6000766aDoorSep
namespace Go.Proofs.Qxb6000766aDoor
open Go.RowKit

def isEl (e : List UInt8) : Prop := e = [42] ∨ IsTag e

def body : List (List UInt8 × List UInt8) → List UInt8
  | [] => []
  | (s, e) :: C => s ++ (e ++ body C)
theorem body_snoc (C : List (List UInt8 × List UInt8)) (s e : List UInt8) : body (C ++ [(s, e)]) = body C ++ (s ++ e) := by
  induction C with
  | nil => simp [body]
  | cons p C ih =>
    obtain ⟨s', e'⟩ := p
    simp only [List.cons_append, body, ih, List.append_assoc]

theorem T3_el (e x : List UInt8) (h : isEl e) : T3 (e ++ x) = e ++ x := by
  rcases h with rfl | ⟨weak, b, _, rfl⟩
  · rfl
  · cases weak
    · rfl
    · rfl

theorem good_body (C : List (List UInt8 × List UInt8)) : ∀ e0, isEl e0 → (∀ p ∈ C, SepOK p.1 ∧ isEl p.2) → GoodT (e0 :: C.map (·.2)) (e0 ++ body C) := by
  induction C with
  | nil => exact fun e0 h _ => ⟨[], by simp [body], h, .inl rfl, rfl⟩
  | cons p C ih =>
    obtain ⟨s, e⟩ := p
    intro e0 h hC
    have hp := hC (s, e) (by simp)
    have ih' := ih e hp.2 (fun q hq => hC q (by simp [hq]))
    have ht : (∃ r', T2 (s ++ (e ++ body C)) = 44 :: r') ∧ T3 (T2 (s ++ (e ++ body C))) = e ++ body C := by
      have h3 := T3_el e (body C) hp.2
      rcases hp.1 with h | h | h
      · simp only at h; subst h
        exact ⟨⟨32 :: (e ++ body C), rfl⟩, h3⟩
      · simp only at h; subst h
        exact ⟨⟨e ++ body C, rfl⟩, h3⟩
      · simp only at h; subst h
        exact ⟨⟨9 :: (e ++ body C), rfl⟩, h3⟩
    refine ⟨s ++ (e ++ body C), rfl, h, .inr ht.1, ?_⟩
    rw [ht.2]
    exact ih'

/-- cur is nothing yet, or the elements E with separators between them. -/
def CurOK (cur : List UInt8) (E : List (List UInt8)) : Prop :=
  (cur = [] ∧ E = []) ∨ ∃ e0 C, cur = e0 ++ body C ∧ E = e0 :: C.map (·.2) ∧ isEl e0 ∧ ∀ p ∈ C, SepOK p.1 ∧ isEl p.2

theorem CurOK.good {cur : List UInt8} {E : List (List UInt8)} (h : CurOK cur E) : GoodT E (T3 cur) := by
  rcases h with ⟨rfl, rfl⟩ | ⟨e0, C, rfl, rfl, h1, h2⟩
  · rfl
  · rw [T3_el e0 _ h1]
    exact good_body C e0 h1 h2
theorem CurOK.first {e : List UInt8} (h : isEl e) : CurOK e [e] := .inr ⟨e, [], by simp [body], rfl, h, fun p hp => absurd hp (by simp)⟩
theorem CurOK.nilE {cur : List UInt8} {E : List (List UInt8)} (h : CurOK cur E) (h0 : cur.length = 0) : E = [] := by
  rcases h with ⟨_, rfl⟩ | ⟨e0, C, rfl, rfl, h1, h2⟩
  · rfl
  · have := el_pos h1
    simp at h0
    rw [h0.1] at this
    cases this
theorem CurOK.more {cur s e : List UInt8} {E : List (List UInt8)} (h : CurOK cur E) (h0 : 0 < cur.length) (hs : SepOK s) (he : isEl e) : CurOK (cur ++ s ++ e) (E ++ [e]) := by
  rcases h with ⟨rfl, _⟩ | ⟨e0, C, rfl, rfl, h1, h2⟩
  · cases h0
  · refine .inr ⟨e0, C ++ [(s, e)], by rw [body_snoc]; simp, by simp, h1, fun p hp => ?_⟩
    rcases List.mem_append.1 hp with hp | hp
    · exact h2 p hp
    · simp at hp; subst hp; exact ⟨hs, he⟩

theorem sep_len {s : List UInt8} (h : SepOK s) : s.length ≤ 3 := by rcases h with rfl | rfl | rfl <;> decide

/-- The plain part of the main loop's state. -/
def Pl (star : Bool) (K : Nat) (Vals : List (List UInt8 × List (List UInt8))) (cur : List UInt8) (E tags : List (List UInt8)) : Prop :=
  (∀ p ∈ Vals, GoodT p.2 (T3 p.1) ∧ p.1.length ≤ 1000000000000000000) ∧ CurOK cur E ∧ (Vals.map (·.2)).flatten ++ E = (if star then [[42]] else []) ++ tags ∧ (∀ t ∈ tags, IsTag t) ∧ cur.length ≤ K

theorem Pl.flush {star : Bool} {K : Nat} {Vals : List (List UInt8 × List (List UInt8))} {cur : List UInt8} {E tags : List (List UInt8)} (h : Pl star K Vals cur E tags) (hK : K ≤ 1000000000000000000) : Pl star K (Vals ++ [(cur, E)]) [] [] tags := by
  obtain ⟨h1, h2, h3, h4, h5⟩ := h
  refine ⟨fun p hp => ?_, .inl ⟨rfl, rfl⟩, ?_, h4, Nat.zero_le _⟩
  · rcases List.mem_append.1 hp with hp | hp
    · exact h1 p hp
    · simp at hp; subst hp; exact ⟨h2.good, Nat.le_trans h5 hK⟩
  · rw [List.map_append, List.flatten_append]
    simpa using h3
theorem Pl.first {star : Bool} {K K' : Nat} {Vals : List (List UInt8 × List (List UInt8))} {cur e : List UInt8} {E tags : List (List UInt8)} (h : Pl star K Vals cur E tags) (h0 : cur.length = 0) (he : IsTag e) (hK : e.length ≤ K') : Pl star K' Vals e [e] (tags ++ [e]) := by
  obtain ⟨h1, h2, h3, h4, h5⟩ := h
  refine ⟨h1, .first (.inr he), ?_, fun t ht => ?_, hK⟩
  · rw [h2.nilE h0, List.append_nil] at h3
    rw [h3, List.append_assoc]
  · rcases List.mem_append.1 ht with ht | ht
    · exact h4 t ht
    · simp at ht; subst ht; exact he
theorem Pl.more {star : Bool} {K K' : Nat} {Vals : List (List UInt8 × List (List UInt8))} {cur s e : List UInt8} {E tags : List (List UInt8)} (h : Pl star K Vals cur E tags) (h0 : 0 < cur.length) (hs : SepOK s) (he : IsTag e) (hK : K + 3 + e.length ≤ K') : Pl star K' Vals (cur ++ s ++ e) (E ++ [e]) (tags ++ [e]) := by
  obtain ⟨h1, h2, h3, h4, h5⟩ := h
  have := sep_len hs
  refine ⟨h1, h2.more h0 hs (.inr he), ?_, fun t ht => ?_, by simp; omega⟩
  · rw [← List.append_assoc, h3, List.append_assoc]
  · rcases List.mem_append.1 ht with ht | ht
    · exact h4 t ht
    · simp at ht; subst ht; exact he

theorem tag_ne {t : List UInt8} (h : IsTag t) : t ≠ [42] := by
  obtain ⟨weak, b, _, rfl⟩ := h
  cases weak <;> simp
theorem ns_tags {star : Bool} {tags : List (List UInt8)} (h : ∀ t ∈ tags, IsTag t) : ns ((if star then [[42]] else []) ++ tags) = tags := by
  have h1 : ns tags = tags := List.filter_eq_self.2 fun t ht => by simp [tag_ne (h t ht)]
  unfold ns at h1 ⊢
  rw [List.filter_append, h1]
  cases star <;> simp
theorem star_tags {star : Bool} {tags : List (List UInt8)} (h : ∀ t ∈ tags, IsTag t) : ((if star then [[42]] else []) ++ tags).contains [42] = star := by
  cases star
  · simp only [Bool.false_eq_true, if_false, List.nil_append]
    rw [Bool.eq_false_iff]
    intro hc
    rw [List.contains_iff_mem] at hc
    exact tag_ne (h _ hc) rfl
  · simp

theorem flat_list (Vals : List (List UInt8 × List (List UInt8))) (k : Nat) (hk : k ≤ Vals.length) : flat (fun j => (Vals[j]?.getD ([], [])).2) k = ((Vals.take k).map (·.2)).flatten := by
  induction k with
  | zero => simp [flat]
  | succ k ih =>
    have hlt : k < Vals.length := hk
    rw [flat, ih (by omega), List.take_add_one, List.map_append, List.flatten_append, List.getElem?_eq_getElem hlt]
    simp

/-- EntityTags on the values that the law lays. -/
def EndPost (star : Bool) (tags : List (List UInt8)) (w : World) (e : Ending) (w' : World) : Prop :=
  ∃ vl, e = .returned (.tuple #[.agg #[.bool star, vl], .bool true]) ∧ w'.ownsRow (w.heap.size + 2) 9 1 vl tags.length (tags.map S) ∧ Below w.heap.size w w'

theorem row_seg {w : World} {B : Nat} {v : Value} {n : Nat} {L : List (List UInt8)} (hn : L.length = n) (h : w.ownsRow B 9 1 v n (L.map S)) : ∃ p c, v = .slice p n c ∧ SegV w p n (fun j => S (L[j]?.getD [])) := by
  obtain ⟨p, c, rfl, hc⟩ := row_form h
  refine ⟨p, c, rfl, fun h0 => ?_⟩
  obtain ⟨g, rfl, hg⟩ := hc h0
  refine ⟨g, 0, rfl, fun j hj => ?_⟩
  show _ = some (S (L[j]?.getD []))
  rw [Nat.zero_add, hg j hj, List.getElem?_map, List.getElem?_eq_getElem (by omega)]
  rfl

theorem end_any (star : Bool) (K : Nat) (Vals : List (List UInt8 × List (List UInt8))) (tags : List (List UInt8)) (vv : Value) (w : World) (B : Nat) (hP : Pl star K Vals [] [] tags) (hl : Vals.length ≤ 1000000) (ht : tags.length ≤ 100000)
    (ho : w.ownsRow B 9 1 vv Vals.length (Vals.map fun p => S p.1)) : Calls Tryd.prog 13 #[vv] w (EndPost star tags w) := by
  obtain ⟨h1, _, h3, h4, _⟩ := hP
  rw [List.append_nil] at h3
  obtain ⟨p, c, rfl, hs⟩ := row_seg (L := Vals.map (·.1)) (n := Vals.length) (by rw [List.length_map]) (by rw [List.map_map]; exact ho)
  have hF : flat (fun j => (Vals[j]?.getD ([], [])).2) Vals.length = (if star then [[42]] else []) ++ tags := by
    rw [flat_list _ _ (Nat.le_refl _), List.take_length, h3]
  have hseg : SegV w p Vals.length (fun j => S (Vals[j]?.getD ([], [])).1) := fun h0 => by
    obtain ⟨b, o, e, hc⟩ := hs h0
    refine ⟨b, o, e, fun j hj => ?_⟩
    rw [hc j hj]
    show some (S ((Vals.map (·.1))[j]?.getD [])) = some (S (Vals[j]?.getD ([], [])).1)
    rw [List.getElem?_map, List.getElem?_eq_getElem hj]
    rfl
  have h := ent_any p Vals.length c (fun j => (Vals[j]?.getD ([], [])).1) (fun j => (Vals[j]?.getD ([], [])).2) w hl hseg (fun j hj => by
    rw [List.getElem?_eq_getElem hj]
    exact h1 _ (List.getElem_mem hj)) (by rw [hF, List.length_append]; cases star <;> simp <;> omega)
  rw [hF] at h
  refine h.mono fun e w' hp => ?_
  obtain ⟨vl, g1, g2, g3⟩ := hp
  rw [star_tags h4] at g1
  rw [ns_tags h4] at g2
  exact ⟨vl, g1, g2, g3⟩

theorem rows_apart {w : World} {B B' : Nat} {v v' : Value} {n n' : Nat} {xs xs' : List Value} {e e' : TypeId} (hee : e ≠ e') (h : w.ownsRow B e 1 v n xs) (h' : w.ownsRow B' e' 1 v' n' xs') : v.ownBlock = none ∨ v.ownBlock ≠ v'.ownBlock := by
  rcases h.2 with ⟨rfl, _⟩ | ⟨g, cap, cur, rfl, _, hg, _⟩
  · exact Or.inl rfl
  · rcases h'.2 with ⟨rfl, _⟩ | ⟨g', cap', cur', rfl, _, hg', _⟩
    · exact Or.inr (by simp [Value.ownBlock])
    · refine Or.inr fun he => ?_
      have : g = g' := by simpa [Value.ownBlock] using he
      subst this
      rw [hg] at hg'
      simp at hg'
      exact hee hg'.2

/-- The world of the main loop: values, cur, tags. -/
def St (wA : World) (vv vc vt : Value) (Vals : List (List UInt8 × List (List UInt8))) (cur : List UInt8) (tags : List (List UInt8)) (w : World) : Prop :=
  w.ownsRow wA.heap.size 9 1 vv Vals.length (Vals.map fun p => S p.1) ∧ Buf wA.heap.size cur vc w ∧ w.ownsRow wA.heap.size 9 1 vt tags.length (tags.map S) ∧ (vv.ownBlock = none ∨ vv.ownBlock ≠ vt.ownBlock) ∧ Below wA.heap.size wA w

theorem St.below {wA : World} {vv vc vt : Value} {Vals : List (List UInt8 × List (List UInt8))} {cur : List UInt8} {tags : List (List UInt8)} {w w' : World} (h : St wA vv vc vt Vals cur tags w) (hB : Below w.heap.size w w') : St wA vv vc vt Vals cur tags w' := by
  obtain ⟨h1, h2, h3, h4, h5⟩ := h
  exact ⟨own_of_block h1 fun g hg => hB.block g (h1.lt g hg).2, own_of_block h2 fun g hg => hB.block g (World.ownsRow.lt h2 g hg).2, own_of_block h3 fun g hg => hB.block g (h3.lt g hg).2, h4, h5.trans (hB.mono h5.size)⟩

theorem St.tag {wA : World} {vv vc vt : Value} {Vals : List (List UInt8 × List (List UInt8))} {cur e : List UInt8} {tags : List (List UInt8)} {w w5 : World} {o : Obj} {g n cap : Nat} (h : St wA vv vc vt Vals cur tags w)
    (ho : w5.ownsRow wA.heap.size 9 1 (.slice (some ⟨g, 0, none⟩) n cap) (tags.length + 1) (tags.map S ++ [S e])) (hg : (w.alloc o).grownBy w5 vt.ownBlock) (hgg : vt.ownBlock = some g ∨ g = (w.alloc o).heap.size) : St wA vv vc (.slice (some ⟨g, 0, none⟩) n cap) Vals cur (tags ++ [e]) w5 := by
  obtain ⟨h1, h2, h3, h4, h5⟩ := h
  have hs := h5.size
  refine ⟨(h1.alloc o).kept hg h4, (World.ownsRow.alloc h2 o).kept hg (rows_apart (by decide) h2 h3), by rw [List.map_append, List.length_append]; exact ho, ?_, (h5.alloc hs o).grown hg (by simp; omega) fun k hk => (h3.lt k hk).1⟩
  rcases hgg with hgg | hgg
  · rw [hgg] at h4; exact h4
  · by_cases hv : vv.ownBlock = none
    · exact .inl hv
    · refine .inr fun he => ?_
      have := (h1.lt g (by rw [he]; rfl)).2
      simp at hgg
      omega

theorem St.val {wA : World} {vv vc vt : Value} {Vals : List (List UInt8 × List (List UInt8))} {cur V : List UInt8} {E tags : List (List UInt8)} {w w5 : World} {o : Obj} {g n cap : Nat} (h : St wA vv vc vt Vals cur tags w)
    (ho : w5.ownsRow wA.heap.size 9 1 (.slice (some ⟨g, 0, none⟩) n cap) (Vals.length + 1) ((Vals.map fun p => S p.1) ++ [S V])) (hg : (w.alloc o).grownBy w5 vv.ownBlock) (hgg : vv.ownBlock = some g ∨ g = (w.alloc o).heap.size) : St wA (.slice (some ⟨g, 0, none⟩) n cap) vc vt (Vals ++ [(V, E)]) cur tags w5 := by
  obtain ⟨h1, h2, h3, h4, h5⟩ := h
  have hs := h5.size
  have h4' : vt.ownBlock = none ∨ vt.ownBlock ≠ vv.ownBlock := by
    rcases h4 with h4 | h4
    · by_cases hv : vt.ownBlock = none
      · exact .inl hv
      · rw [h4]; exact .inr hv
    · exact .inr (Ne.symm h4)
  refine ⟨by rw [List.map_append, List.length_append]; exact ho, (World.ownsRow.alloc h2 o).kept hg (rows_apart (by decide) h2 h1), (h3.alloc o).kept hg h4', ?_, (h5.alloc hs o).grown hg (by simp; omega) fun k hk => (h1.lt k hk).1⟩
  rcases hgg with hgg | hgg
  · right
    show some g ≠ vt.ownBlock
    intro he
    rcases h4 with h4 | h4
    · rw [h4] at hgg; cases hgg
    · exact h4 (by rw [hgg, he])
  · right
    show some g ≠ vt.ownBlock
    intro he
    have := (h3.lt g he.symm).2
    simp at hgg
    omega

theorem St.cur {wA : World} {vv vc vc' vt : Value} {Vals : List (List UInt8 × List (List UInt8))} {cur cur' : List UInt8} {tags : List (List UInt8)} {w w' : World} (h : St wA vv vc vt Vals cur tags w) (hb : Buf wA.heap.size cur' vc' w') (hg : w.grownBy w' vc.ownBlock) : St wA vv vc' vt Vals cur' tags w' := by
  obtain ⟨h1, h2, h3, h4, h5⟩ := h
  exact ⟨h1.kept hg (rows_apart (by decide) h1 h2), hb, h3.kept hg (rows_apart (by decide) h3 h2), h4, h5.grown hg h5.size fun k hk => (World.ownsRow.lt h2 k hk).1⟩
theorem St.nil {wA : World} {vv vc vt : Value} {Vals : List (List UInt8 × List (List UInt8))} {cur : List UInt8} {tags : List (List UInt8)} {w : World} (h : St wA vv vc vt Vals cur tags w) : St wA vv (.slice none 0 0) vt Vals [] tags w := ⟨h.1, World.ownsRow_nil _ _ _ _, h.2.2⟩
theorem St.start (wA : World) : St wA (.slice none 0 0) (.slice none 0 0) (.slice none 0 0) [] [] [] wA := ⟨World.ownsRow_nil _ _ _ _, World.ownsRow_nil _ _ _ _, World.ownsRow_nil _ _ _ _, .inl rfl, Below.refl _ _⟩

end Go.Proofs.Qxb6000766aDoor
