/-
  The plain law: the indexed rules take the statements that the plain scan takes.
-/
import Derived.Test.Qxb6000393aDoorByt
import Derived.Test.Qxb6000393aDoorDec
namespace Go.Proofs.Qxb6000393aDoor
open Go.RowKit

theorem mem_lits (sts : List PS) (x : List UInt8) (s : PS) : s ∈ lits (pairs sts) x ↔ s ∈ sts ∧ ∃ p ∈ s.2.2.2.1, star p = false ∧ x = p := by
  unfold lits pairs
  constructor
  · intro h
    obtain ⟨⟨s', p⟩, hd, rfl⟩ := List.mem_map.1 h
    obtain ⟨hm, hc⟩ := List.mem_filter.1 hd
    obtain ⟨s1, hs1, h1⟩ := List.mem_flatMap.1 hm
    obtain ⟨p1, hp1, e⟩ := List.mem_map.1 h1
    cases e
    simp at hc
    exact ⟨hs1, p, hp1, hc.1, hc.2⟩
  · rintro ⟨hs, p, hp, h1, h2⟩
    refine List.mem_map.2 ⟨(s, p), List.mem_filter.2 ⟨List.mem_flatMap.2 ⟨s, hs, List.mem_map.2 ⟨p, hp, rfl⟩⟩, ?_⟩, rfl⟩
    simp [h1, h2]
theorem mem_qt (sts : List PS) (x : List UInt8) (s : PS) : s ∈ qt (quots sts) x ↔ s ∈ sts ∧ ∃ p ∈ s.2.2.2.1, star p = true ∧ matchS p x = true := by
  unfold qt quots
  constructor
  · intro h
    obtain ⟨q, hq, rfl⟩ := List.mem_map.1 h
    obtain ⟨hm, hc⟩ := List.mem_filter.1 hq
    obtain ⟨s1, hs1, rfl⟩ := List.mem_map.1 hm
    unfold anyL at hc
    obtain ⟨p, hp, h2⟩ := List.any_eq_true.1 hc
    obtain ⟨h3, h4⟩ := List.mem_filter.1 hp
    exact ⟨(List.mem_filter.1 hs1).1, p, h3, h4, h2⟩
  · rintro ⟨hs, p, hp, h1, h2⟩
    refine List.mem_map.2 ⟨(s, s.2.2.2.1.filter star), List.mem_filter.2 ⟨List.mem_map.2 ⟨s, List.mem_filter.2 ⟨hs, List.any_eq_true.2 ⟨p, hp, h1⟩⟩, rfl⟩, ?_⟩, rfl⟩
    unfold anyL
    exact List.any_eq_true.2 ⟨p, List.mem_filter.2 ⟨hp, h1⟩, h2⟩
theorem mem_taken (sts : List PS) (x : List UInt8) (s : PS) : s ∈ taken x (rsOf sts) ↔ s ∈ sts ∧ anyL s.2.2.2.1 x = true := by
  unfold taken rsOf
  rw [List.mem_append, mem_lits, mem_qt]
  unfold anyL
  rw [List.any_eq_true]
  have hpl : ∀ p, star p = false → matchS p x = (p == x) := fun p hp => matchS_plain p x (by unfold star at hp; simpa using hp)
  constructor
  · rintro (⟨hs, p, hp, h1, h2⟩ | ⟨hs, p, hp, h1, h2⟩)
    · exact ⟨hs, p, hp, by rw [hpl p h1, h2]; simp⟩
    · exact ⟨hs, p, hp, h2⟩
  · rintro ⟨hs, p, hp, h⟩
    cases h1 : star p with
    | true => exact .inr ⟨hs, p, hp, h1, h⟩
    | false =>
      rw [hpl p h1] at h
      exact .inl ⟨hs, p, hp, h1, (eq_of_beq h).symm⟩

theorem ex_map {α β : Type} (L : List α) (f : α → β) (P : β → Prop) : (∃ t ∈ L.map f, P t) ↔ ∃ s ∈ L, P (f s) := by
  constructor
  · rintro ⟨t, ht, hp⟩
    obtain ⟨s, hs, rfl⟩ := List.mem_map.1 ht
    exact ⟨s, hs, hp⟩
  · rintro ⟨s, hs, hp⟩
    exact ⟨_, List.mem_map_of_mem hs, hp⟩

theorem same_any' {sts : List PS} {Z : List ZS} (h : Same sts Z) (P : Int × List (List UInt8) × List (List UInt8) → Prop) : (∃ s ∈ sts, P s.2.2) ↔ ∃ z ∈ Z, P (z.1, z.2.1, z.2.2.1) := by
  have h1 := ex_map sts (fun s => s.2.2) P
  have h2 := ex_map Z (fun z => (z.1, z.2.1, z.2.2.1)) P
  rw [← h1, ← h2, h]

/-- What is known of the three parts. -/
def Three (Z : List ZS) (SL : List (List PS)) : Prop := SL.length = 3 ∧ ∀ j, j < 3 → Same (SL[j]?.getD []) (ofPart Z j)

theorem taken_any (Z : List ZS) (SL : List (List PS)) (h : Three Z SL) (x nm : List UInt8) (c : Int) : ((takenL x (SL.map rsOf)).any fun s => s.2.2.1 == c && anyL s.2.2.2.2 nm) = Z.any fun z => hit x nm z && z.1 == c := by
  rw [Bool.eq_iff_iff, List.any_eq_true, List.any_eq_true]
  have key : ∀ j, j < 3 → ((∃ s ∈ taken x (rsOf (SL[j]?.getD [])), (s.2.2.1 == c && anyL s.2.2.2.2 nm) = true) ↔ ∃ z ∈ ofPart Z j, (hit x nm z && z.1 == c) = true) := fun j hj => by
    have hs := same_any' (h.2 j hj) (fun t => anyL t.2.1 x = true ∧ (t.1 == c && anyL t.2.2 nm) = true)
    constructor
    · rintro ⟨s, hm, hc⟩
      rw [mem_taken] at hm
      obtain ⟨z, hz, hz1, hz2⟩ := hs.1 ⟨s, hm.1, hm.2, hc⟩
      refine ⟨z, hz, ?_⟩
      unfold hit
      dsimp only at hz1 hz2
      rw [hz1]
      simp at hz2 ⊢
      exact ⟨hz2.2, hz2.1⟩
    · rintro ⟨z, hz, hc⟩
      unfold hit at hc
      simp at hc
      obtain ⟨s, hs1, hs2, hs3⟩ := hs.2 ⟨z, hz, hc.1.1, by simp [hc.1.2, hc.2]⟩
      exact ⟨s, (mem_taken _ _ _).2 ⟨hs1, hs2⟩, hs3⟩
  constructor
  · rintro ⟨s, hm, hc⟩
    unfold takenL at hm
    obtain ⟨r, hr, hm⟩ := List.mem_flatMap.1 hm
    obtain ⟨sts, hst, rfl⟩ := List.mem_map.1 hr
    obtain ⟨j, hj, rfl⟩ := List.getElem_of_mem hst
    have hj3 : j < 3 := by have := h.1; omega
    have e : SL[j]?.getD [] = SL[j] := by rw [List.getElem?_eq_getElem hj]; rfl
    obtain ⟨z, hz, hc'⟩ := (key j hj3).1 ⟨s, by rw [e]; exact hm, hc⟩
    exact ⟨z, (List.mem_filter.1 hz).1, hc'⟩
  · rintro ⟨z, hz, hc⟩
    have hj3 : z.2.2.2 % 3 < 3 := Nat.mod_lt _ (by decide)
    have hj : z.2.2.2 % 3 < SL.length := by rw [h.1]; exact hj3
    obtain ⟨s, hs, hc'⟩ := (key (z.2.2.2 % 3) hj3).2 ⟨z, List.mem_filter.2 ⟨hz, by simp⟩, hc⟩
    have e : SL[z.2.2.2 % 3]?.getD [] = SL[z.2.2.2 % 3] := by rw [List.getElem?_eq_getElem hj]; rfl
    rw [e] at hs
    exact ⟨s, List.mem_flatMap.2 ⟨_, List.mem_map.2 ⟨_, List.getElem_mem hj, rfl⟩, hs⟩, hc'⟩

/-- The plain law. -/
theorem law (Z : List ZS) (SL : List (List PS)) (h : Three Z SL) (x nm : List UInt8) : okD (takenL x (SL.map rsOf)) nm = dec x nm Z := by
  have h1 := taken_any Z SL h x nm 1
  have h2 := taken_any Z SL h x nm 2
  unfold okD dec fa fd al dn
  rw [← h1, ← h2, List.any_filter, List.any_filter]

theorem part_len (Z : List ZS) (q : Nat) : (ofPart Z q).length ≤ Z.length := List.length_filter_le _ _

theorem taken_small (Z : List ZS) (SL : List (List PS)) (h : Three Z SL) (x : List UInt8) (hn : Z.length ≤ 2000000) (hp : pats Z ≤ 2000000) : (takenL x (SL.map rsOf)).length ≤ 100000000 := by
  have key : ∀ j, j < 3 → (taken x (rsOf (SL[j]?.getD []))).length ≤ 4000000 := fun j hj => by
    have hs := h.2 j hj
    unfold taken rsOf
    rw [List.length_append]
    have h1 := lits_len (pairs (SL[j]?.getD [])) x
    rw [pairs_pats hs] at h1
    have h2 := pats_part Z j
    have h3 : (qt (quots (SL[j]?.getD [])) x).length ≤ (SL[j]?.getD []).length := by
      unfold qt quots
      rw [List.length_map]
      refine Nat.le_trans (List.length_filter_le _ _) ?_
      rw [List.length_map]
      exact List.length_filter_le _ _
    rw [hs.len] at h3
    have h4 := part_len Z j
    dsimp only
    omega
  match SL, h, key with
  | [a, b, c], _, key =>
    have ka := key 0 (by decide)
    have kb := key 1 (by decide)
    have kc := key 2 (by decide)
    simp at ka kb kc
    simp [takenL]
    omega
  | [], h, _ => exact absurd h.1 (by simp)
  | [_], h, _ => exact absurd h.1 (by simp)
  | [_, _], h, _ => exact absurd h.1 (by simp)
  | _ :: _ :: _ :: _ :: _, h, _ => exact absurd h.1 (by simp)

theorem mem_at {SL : List (List PS)} {sts : List PS} (h : sts ∈ SL) : ∃ j, j < SL.length ∧ SL[j]?.getD [] = sts := by
  obtain ⟨j, hj, rfl⟩ := List.getElem_of_mem h
  exact ⟨j, hj, by rw [List.getElem?_eq_getElem hj]; rfl⟩

theorem good_rules (Z : List ZS) (SL : List (List PS)) (h : Three Z SL) (w : World) (hok : ∀ j, j < 3 → ∀ s ∈ SL[j]?.getD [], PS.ok w s) (hZ : ∀ z ∈ Z, Small z.2.1 ∧ Small z.2.2.1) : GoodR w (SL.map rsOf) := fun r hr => by
  obtain ⟨sts, hst, rfl⟩ := List.mem_map.1 hr
  obtain ⟨j, hj, rfl⟩ := mem_at hst
  have hj3 : j < 3 := by have := h.1; omega
  have hsm := (h.2 j hj3).small fun z hz => hZ z (List.mem_filter.1 hz).1
  refine ⟨fun d hd => ?_, fun q hq => ?_⟩
  · obtain ⟨s, hs, hd⟩ := List.mem_flatMap.1 hd
    obtain ⟨p, _, rfl⟩ := List.mem_map.1 hd
    exact ⟨hok j hj3 s hs, (hsm s hs).2⟩
  · obtain ⟨s, hs, rfl⟩ := List.mem_map.1 hq
    have hs := (List.mem_filter.1 hs).1
    refine ⟨hok j hj3 s hs, (hsm s hs).2, Nat.le_trans (List.length_filter_le _ _) (hsm s hs).1.1, fun p hp => (hsm s hs).1.2 p (List.mem_filter.1 hp).1⟩
theorem quots_small (Z : List ZS) (SL : List (List PS)) (h : Three Z SL) (hn : Z.length ≤ 2000000) : ∀ r ∈ SL.map rsOf, r.2.length ≤ 2000000 := fun r hr => by
  obtain ⟨sts, hst, rfl⟩ := List.mem_map.1 hr
  obtain ⟨j, hj, rfl⟩ := mem_at hst
  have hj3 : j < 3 := by have := h.1; omega
  have h1 := (h.2 j hj3).len
  have h2 := part_len Z j
  unfold rsOf quots
  dsimp only
  rw [List.length_map]
  exact Nat.le_trans (List.length_filter_le _ _) (by omega)

end Go.Proofs.Qxb6000393aDoor
