/-
  matching.add and matching.allowed, walked.
-/
import Derived.Test.Qxb6000393aDoorNewR
namespace Go.Proofs.Qxb6000393aDoor
open Go.RowKit

/-- Of the statements taken: those that allow, those that deny. -/
def fa (D : List PS) : List PS := D.filter fun s => s.2.2.1 == 1
def fd (D : List PS) : List PS := D.filter fun s => s.2.2.1 == 2
theorem fa_len (D : List PS) : (fa D).length ≤ D.length := List.length_filter_le _ _
theorem fd_len (D : List PS) : (fd D).length ≤ D.length := List.length_filter_le _ _
theorem fa_snoc (D : List PS) (s : PS) : fa (D ++ [s]) = if s.2.2.1 = 1 then fa D ++ [s] else fa D := by
  unfold fa; rw [List.filter_append]; by_cases h : s.2.2.1 = 1
  · rw [if_pos h]; simp [h]
  · rw [if_neg h]; simp [h]
theorem fd_snoc (D : List PS) (s : PS) : fd (D ++ [s]) = if s.2.2.1 = 2 then fd D ++ [s] else fd D := by
  unfold fd; rw [List.filter_append]; by_cases h : s.2.2.1 = 2
  · rw [if_pos h]; simp [h]
  · rw [if_neg h]; simp [h]

/-- The struct 'matching' in block B of world wr: it holds the pointers to D's statements. -/
def MA (B : Nat) (w : World) (D : List PS) (wr : World) : Prop :=
  ∃ va vd, wr.heap[B]? = some (.cells #[va, vd] 52 (0, 0)) ∧ wr.ownsRow (B + 1) 58 1 va (fa D).length ((fa D).map ptr) ∧ wr.ownsRow (B + 1) 58 1 vd (fd D).length ((fd D).map ptr) ∧ (∀ g, va.ownBlock = some g → vd.ownBlock ≠ some g) ∧ Below B w wr
theorem MA.size {B : Nat} {w : World} {D : List PS} {wr : World} (h : MA B w D wr) : B + 1 ≤ wr.heap.size := by
  obtain ⟨va, vd, h1, _⟩ := h
  exact lt_of_heap h1
theorem MA.bw {B : Nat} {w : World} {D : List PS} {wr : World} (h : MA B w D wr) : Below B w wr := by
  obtain ⟨va, vd, _, _, _, _, h⟩ := h
  exact h
theorem MA.below {B : Nat} {w : World} {D : List PS} {wr wr' : World} (h : MA B w D wr) (hB : Below wr.heap.size wr wr') : MA B w D wr' := by
  have hs := h.size
  obtain ⟨va, vd, h1, h2, h3, h4, h5⟩ := h
  exact ⟨va, vd, by rw [hB.block _ (by omega)]; exact h1, own_below h2 hB, own_below h3 hB, h4, h5.trans (hB.mono (by omega))⟩

/-- The statement allows: its pointer is appended. -/
theorem MA.allow {B : Nat} {w : World} {D : List PS} {wr : World} (h : MA B w D wr) (s : PS) (hs : s.2.2.1 = 1) :
    ∃ va, wr.cell? ⟨B, 0, none⟩ = some va ∧ wr.ownsRow (B + 1) 58 1 va (fa D).length ((fa D).map ptr) ∧ ∀ o g cap w5, w5.ownsRow (B + 1) 58 1 (.slice (some ⟨g, 0, none⟩) ((fa D).length + 1) cap) ((fa D).length + 1) ((fa D).map ptr ++ [ptr s]) → (wr.alloc o).grownBy w5 va.ownBlock → (va.ownBlock = some g ∨ g = wr.heap.size + 1) →
      w5.cell? ⟨B, 0, none⟩ = some va ∧ w5.frozen? ⟨B, 0, none⟩ = false ∧ MA B w (D ++ [s]) (w5.setCell ⟨B, 0, none⟩ (.slice (some ⟨g, 0, none⟩) ((fa D).length + 1) cap)) := by
  have hsz := h.size
  obtain ⟨va, vd, h1, h2, h3, h4, h5⟩ := h
  refine ⟨va, by rw [cell_of_row _ _ _ _ _ _ h1]; rfl, h2, fun o g cap w5 ho hg hgg => ?_⟩
  have hg' := grown_of_alloc hg
  have hB5 : w5.heap[B]? = some (.cells #[va, vd] 52 (0, 0)) := by
    rw [hg'.block B (by omega) fun e => by have := (own_tag h2 e.symm).1; omega]; exact h1
  have hk : ∀ b, B + 1 ≤ b → (w5.setCell ⟨B, 0, none⟩ (.slice (some ⟨g, 0, none⟩) ((fa D).length + 1) cap)).heap[b]? = w5.heap[b]? := fun b hb => heap_setCell_other _ _ _ _ (by simp; omega)
  refine ⟨by rw [cell_of_row _ _ _ _ _ _ hB5]; rfl, frozen_of_row _ _ _ _ _ hB5, _, vd, heap_setCell_same _ _ _ _ _ _ hB5, ?_, ?_, fun g' hg1 => ?_, (h5.grown hg' (by omega) fun k hk => by have := (own_tag h2 hk).1; omega).setCell (by simp) _⟩
  · rw [fa_snoc, if_pos hs, List.length_append, List.map_append]
    exact own_keep ho fun b cs _ hb _ => hk b hb
  · rw [fd_snoc, if_neg (by omega)]
    exact own_keep (own_keep h3 fun b cs hown hb hc => hg'.block b (lt_of_heap hc) fun e => h4 b e.symm hown) fun b cs _ hb _ => hk b hb
  · cases hg1
    rcases hgg with hgg | hgg
    · exact h4 g hgg
    · intro e
      obtain ⟨_, cs, hc⟩ := own_tag h3 e
      have := lt_of_heap hc
      dsimp only at this
      omega
theorem MA.deny {B : Nat} {w : World} {D : List PS} {wr : World} (h : MA B w D wr) (s : PS) (hs : s.2.2.1 = 2) :
    ∃ vd, wr.cell? ⟨B, 1, none⟩ = some vd ∧ wr.ownsRow (B + 1) 58 1 vd (fd D).length ((fd D).map ptr) ∧ ∀ o g cap w5, w5.ownsRow (B + 1) 58 1 (.slice (some ⟨g, 0, none⟩) ((fd D).length + 1) cap) ((fd D).length + 1) ((fd D).map ptr ++ [ptr s]) → (wr.alloc o).grownBy w5 vd.ownBlock → (vd.ownBlock = some g ∨ g = wr.heap.size + 1) →
      w5.cell? ⟨B, 1, none⟩ = some vd ∧ w5.frozen? ⟨B, 1, none⟩ = false ∧ MA B w (D ++ [s]) (w5.setCell ⟨B, 1, none⟩ (.slice (some ⟨g, 0, none⟩) ((fd D).length + 1) cap)) := by
  have hsz := h.size
  obtain ⟨va, vd, h1, h2, h3, h4, h5⟩ := h
  refine ⟨vd, by rw [cell_of_row _ _ _ _ _ _ h1]; rfl, h3, fun o g cap w5 ho hg hgg => ?_⟩
  have hg' := grown_of_alloc hg
  have hB5 : w5.heap[B]? = some (.cells #[va, vd] 52 (0, 0)) := by
    rw [hg'.block B (by omega) fun e => by have := (own_tag h3 e.symm).1; omega]; exact h1
  have hk : ∀ b, B + 1 ≤ b → (w5.setCell ⟨B, 1, none⟩ (.slice (some ⟨g, 0, none⟩) ((fd D).length + 1) cap)).heap[b]? = w5.heap[b]? := fun b hb => heap_setCell_other _ _ _ _ (by simp; omega)
  refine ⟨by rw [cell_of_row _ _ _ _ _ _ hB5]; rfl, frozen_of_row _ _ _ _ _ hB5, va, _, heap_setCell_same _ _ _ _ _ _ hB5, ?_, ?_, fun g' hg1 => ?_, (h5.grown hg' (by omega) fun k hk => by have := (own_tag h3 hk).1; omega).setCell (by simp) _⟩
  · rw [fa_snoc, if_neg (by omega)]
    exact own_keep (own_keep h2 fun b cs hown hb hc => hg'.block b (lt_of_heap hc) fun e => h4 b hown e.symm) fun b cs _ hb _ => hk b hb
  · rw [fd_snoc, if_pos hs, List.length_append, List.map_append]
    exact own_keep ho fun b cs _ hb _ => hk b hb
  · intro e
    cases e
    rcases hgg with hgg | hgg
    · exact h4 g hg1 hgg
    · obtain ⟨_, cs, hc⟩ := own_tag h2 hg1
      have := lt_of_heap hc
      dsimp only at this
      omega
theorem MA.neither {B : Nat} {w : World} {D : List PS} {wr : World} (h : MA B w D wr) (s : PS) (h1 : s.2.2.1 ≠ 1) (h2 : s.2.2.1 ≠ 2) : MA B w (D ++ [s]) wr := by
  obtain ⟨va, vd, h⟩ := h
  exact ⟨va, vd, by rw [fa_snoc, if_neg h1, fd_snoc, if_neg h2]; exact h⟩

def AddPost (B : Nat) (w : World) (D : List PS) (s : PS) (e : Ending) (w' : World) : Prop := (∃ v, e = .returned v) ∧ MA B w (D ++ [s]) w'

set_option maxRecDepth 100000 in
set_option maxHeartbeats 2000000 in
/-- (matching).add. -/
theorem add32 (B : Nat) (w : World) (D : List PS) (s : PS) (wr : World) (hD : D.length ≤ 100000000) (hw : w.heap.size = B) (hs : PS.ok w s) (h : MA B w D wr) : Calls Tryd.prog 32 #[.pointer (some ⟨B, 0, none⟩), .pointer (some ⟨s.1, s.2.1, none⟩)] wr (AddPost B w D s) := by
  obtain ⟨i58, hi58, hy0, hy1, hy2⟩ := info_parts Tryd.info58
  have hsz := h.size
  have hk0 : wr.cell? ⟨s.1, s.2.1, none⟩ = some (.int .i64 s.2.2.1) := by
    obtain ⟨_, _, h0, _⟩ := hs
    have hb := World.block_lt_of_cell? _ _ h0
    exact (h.bw.cell (p := ⟨s.1, s.2.1, none⟩) (by simpa [hw] using hb)).trans h0
  have hfa := fa_len D
  have hfd := fd_len D
  by_cases h1 : s.2.2.1 = 1
  · obtain ⟨va, hc, hown, hcl⟩ := h.allow s h1
    have Hown := hide hown
    have Hcl := hide hcl
    rw [h1] at hk0
    clear h hs h1 hown hcl
    obtain ⟨sb, so, se, sA, sR⟩ := s
    dsimp only at hk0
    generalize (fa D).length = m at *
    go_enter Tryd.func32, Tryd.ntmps32
    go_wp2_with (at_builtin; refine wpList_append_lies _ rfl (.tmp 14) (.tmp 16) 50 rfl (B + 1) 58 i58 _ 1 8 Tryd.underlying50 hi58 hy0 hy1 hy2 rfl (by decide) va m ((fa D).map ptr) rfl (World.ownsRow.alloc (unhide Hown) _) ⟨wr.heap.size, 0, none⟩ 1 1 [.pointer (some ⟨sb, so, none⟩)] rfl rfl (by exact cells_new _ [.pointer (some ⟨sb, so, none⟩)] _ _ rfl) (fun u hu => by simp at hu; subst hu; rfl) (by decide) (by unfold maxLen; omega) (by omega) (by simp; omega) _ rfl ?_; intro g5 cap5 w5 ho5 hg5 hgg5 hlt5; obtain ⟨h51, h52, h53⟩ := unhide Hcl _ g5 cap5 w5 ho5 hg5 (by simpa using hgg5); have HN5 := hide h53; clear ho5 hg5 hgg5 hlt5 h53)
    go_end0
    exact ⟨⟨_, rfl⟩, unhide HN5⟩
  · by_cases h2 : s.2.2.1 = 2
    · obtain ⟨va, hc, hown, hcl⟩ := h.deny s h2
      have Hown := hide hown
      have Hcl := hide hcl
      rw [h2] at hk0
      clear h hs h1 h2 hown hcl
      obtain ⟨sb, so, se, sA, sR⟩ := s
      dsimp only at hk0
      generalize (fd D).length = m at *
      go_enter Tryd.func32, Tryd.ntmps32
      go_wp2_with (at_builtin; refine wpList_append_lies _ rfl (.tmp 26) (.tmp 28) 50 rfl (B + 1) 58 i58 _ 1 8 Tryd.underlying50 hi58 hy0 hy1 hy2 rfl (by decide) va m ((fd D).map ptr) rfl (World.ownsRow.alloc (unhide Hown) _) ⟨wr.heap.size, 0, none⟩ 1 1 [.pointer (some ⟨sb, so, none⟩)] rfl rfl (by exact cells_new _ [.pointer (some ⟨sb, so, none⟩)] _ _ rfl) (fun u hu => by simp at hu; subst hu; rfl) (by decide) (by unfold maxLen; omega) (by omega) (by simp; omega) _ rfl ?_; intro g5 cap5 w5 ho5 hg5 hgg5 hlt5; obtain ⟨h51, h52, h53⟩ := unhide Hcl _ g5 cap5 w5 ho5 hg5 (by simpa using hgg5); have HN5 := hide h53; clear ho5 hg5 hgg5 hlt5 h53)
      go_end0
      exact ⟨⟨_, rfl⟩, unhide HN5⟩
    · have HN5 := hide (h.neither s h1 h2)
      clear h hs
      obtain ⟨sb, so, se, sA, sR⟩ := s
      dsimp only at hk0 h1 h2
      go_enter Tryd.func32, Tryd.ntmps32
      go_wp2
      go_end0
      exact ⟨⟨_, rfl⟩, unhide HN5⟩

/-- What the taken statements say of a name. -/
def okD (D : List PS) (x : List UInt8) : Bool := ((fa D).any fun s => anyL s.2.2.2.2 x) && !(fd D).any fun s => anyL s.2.2.2.2 x

theorem any_range (L : List PS) (f : PS → Bool) : ((List.range L.length).any fun j => f (L[j]?.getD ps0)) = L.any f := by
  rw [Bool.eq_iff_iff, List.any_eq_true, List.any_eq_true]
  constructor
  · rintro ⟨j, hj, h⟩
    have hj' := List.mem_range.1 hj
    rw [List.getElem?_eq_getElem hj'] at h
    exact ⟨_, List.getElem_mem hj', h⟩
  · rintro ⟨p, hp, h⟩
    obtain ⟨j, hj, rfl⟩ := List.getElem_of_mem hp
    exact ⟨j, List.mem_range.2 hj, by rw [List.getElem?_eq_getElem hj]; exact h⟩

/-- coversResource at a row of pointers. -/
theorem covers_row (v : Value) (L : List PS) (B : Nat) (nm : List UInt8) (w : World) (hn : L.length ≤ 100000000) (hnm : nm.length < 4294967281) (hM : HasMax w) (hv : w.ownsRow B 58 1 v L.length (L.map ptr)) (hok : ∀ s ∈ L, PS.ok w s ∧ Small s.2.2.2.2) :
    Calls Tryd.prog 45 #[v, S nm] w (MatchPost (L.any fun s => anyL s.2.2.2.2 nm) w) := by
  obtain ⟨p, c, rfl, hr⟩ := row_form' hv
  have hm : ∀ j, j < L.length → (L[j]?.getD ps0) ∈ L := fun j hj => by rw [List.getElem?_eq_getElem hj]; exact List.getElem_mem hj
  have h := covers45 (.slice p L.length c) L.length (fun j => (L[j]?.getD ps0).1) (fun j => (L[j]?.getD ps0).2.1) (fun j => (L[j]?.getD ps0).2.2.1) (fun j => (L[j]?.getD ps0).2.2.2.1) (fun j => (L[j]?.getD ps0).2.2.2.2) nm w hn hnm (fun j hj => (hok _ (hm j hj)).2) hM ⟨p, c, rfl, fun h0 => ?_⟩ (fun j hj => (hok _ (hm j hj)).1)
  · rw [any_range L (fun s => anyL s.2.2.2.2 nm)] at h
    exact h
  · obtain ⟨g, cs, _, hp, hg, hcs⟩ := hr h0
    refine ⟨g, 0, hp, fun j hj => ?_⟩
    have he : L[j]?.getD ps0 = L[j] := by rw [List.getElem?_eq_getElem hj]; rfl
    dsimp only
    rw [cell_of_row _ _ _ _ _ _ hg, Nat.zero_add, hcs j (by omega), List.getElem?_map, he, List.getElem?_eq_getElem hj]
    rfl

def AllowedPost (L : List (List UInt8)) (w : World) (e : Ending) (w' : World) : Prop := ∃ p c, e = .returned (.slice p L.length c) ∧ Strs w' (.slice p L.length c) L ∧ Below w.heap.size w w'

theorem filt_take (L : List (List UInt8)) (f : List UInt8 → Bool) (k : Nat) (hk : k < L.length) (x : List UInt8) (hx : L[k]?.getD [] = x) : (L.take (k + 1)).filter f = if f x = true then (L.take k).filter f ++ [x] else (L.take k).filter f := by
  rw [take_one L k hk x hx, List.filter_append]
  by_cases h : f x = true
  · rw [if_pos h]; simp [h]
  · rw [if_neg h]; simp [h]
theorem filt_len (L : List (List UInt8)) (f : List UInt8 → Bool) (k : Nat) : ((L.take k).filter f).length ≤ L.length := Nat.le_trans (List.length_filter_le _ _) (by rw [List.length_take]; omega)
theorem row_strs {w : World} {B : Nat} {v : Value} {L : List (List UInt8)} (h : w.ownsRow B 9 1 v L.length (L.map S)) : ∃ p c, v = .slice p L.length c ∧ Strs w (.slice p L.length c) L := by
  obtain ⟨p, c, rfl, hr⟩ := row_form' h
  refine ⟨p, c, rfl, p, c, rfl, fun h0 => ?_⟩
  obtain ⟨g, cs, _, hp, hg, hcs⟩ := hr h0
  refine ⟨g, 0, hp, fun j hj => ?_⟩
  have he : L[j]?.getD [] = L[j] := by rw [List.getElem?_eq_getElem hj]; rfl
  dsimp only
  rw [cell_of_row _ _ _ _ _ _ hg, Nat.zero_add, hcs j (by omega), List.getElem?_map, he, List.getElem?_eq_getElem hj]
  rfl

set_option maxRecDepth 100000 in
set_option maxHeartbeats 4000000 in
/-- (matching).allowed. -/
theorem allowed34 (B : Nat) (w0 : World) (D : List PS) (v2 : Value) (L : List (List UInt8)) (w : World) (hD : D.length ≤ 100000000) (hL : Small L) (h : MA B w0 D w) (hM : HasMax w) (hok : ∀ s ∈ D, PS.ok w s ∧ Small s.2.2.2.2) (hs : Strs w v2 L) : Calls Tryd.prog 34 #[.pointer (some ⟨B, 0, none⟩), v2] w (AllowedPost (L.filter (okD D)) w) := by
  obtain ⟨p2, c2, rfl, hseg⟩ := hs
  obtain ⟨i9, hi9, hx0, hx1, hx2⟩ := info_parts Tryd.info9
  obtain ⟨va, vd, h1, h2, h3, _, _⟩ := h
  have hLn := hL.1
  obtain ⟨w1, hmk, hrow1, hg1⟩ := run_make_own (P := Tryd.prog) w w.heap.size 27 9 i9 _ 1 Tryd.underlying27 hi9 hx0 hx1 .i64 .i64 L.length (by rw [hx2]; omega) (by unfold maxLen; omega) (Nat.le_refl _)
  have hB1 : Below w.heap.size w w1 := (Below.refl _ w).grown hg1 (Nat.le_refl _) fun k hk => by cases hk
  have Hb := hide h1
  have HA : Hid (∀ x w', x.length < 4294967281 → Below w.heap.size w w' → Calls Tryd.prog 45 #[va, S x] w' (MatchPost ((fa D).any fun s => anyL s.2.2.2.2 x) w')) := hide fun x w' hx hB => covers_row va (fa D) (B + 1) x w' (Nat.le_trans (fa_len D) hD) hx (hM.below hB) (own_below h2 hB) fun s hs => ⟨(hok s (List.mem_filter.1 hs).1).1.below hB, (hok s (List.mem_filter.1 hs).1).2⟩
  have HDn : Hid (∀ x w', x.length < 4294967281 → Below w.heap.size w w' → Calls Tryd.prog 45 #[vd, S x] w' (MatchPost ((fd D).any fun s => anyL s.2.2.2.2 x) w')) := hide fun x w' hx hB => covers_row vd (fd D) (B + 1) x w' (Nat.le_trans (fd_len D) hD) hx (hM.below hB) (own_below h3 hB) fun s hs => ⟨(hok s (List.mem_filter.1 hs).1).1.below hB, (hok s (List.mem_filter.1 hs).1).2⟩
  have Hseg := hide hseg
  have HL := hide hL
  have Hrow1 := hide hrow1
  have HB1 := hide hB1
  clear hseg hL hok hM h1 h2 h3 hrow1 hg1 hB1
  generalize hN : L.length = n at *
  have HN := hide hN
  clear hN
  have cS := cells_S
  simp only [Value.cells] at cS
  go_enter Tryd.func34, Tryd.ntmps34
  go_wp2
  go_loopw [5, 13] (fun v i wr => ∃ k : Nat, k ≤ n ∧ i = .int .i64 k ∧ Below w.heap.size w wr ∧ wr.ownsRow w.heap.size 9 1 v ((L.take k).filter (okD D)).length (((L.take k).filter (okD D)).map S)) (fun _ i _ => n - (intOf i).toNat)
  case atStart => exact ⟨0, Nat.zero_le _, rfl, unhide HB1, unhide Hrow1⟩
  case round =>
    clear Hrow1 HB1 hmk
    obtain ⟨k, hk, rfl, hBw, hrow⟩ := hrel
    have hle := hBw.size
    by_cases hlt : k < n
    · have hlk : k < L.length := by rw [unhide HN]; exact hlt
      obtain ⟨b, o, rfl, hcs⟩ := unhide Hseg (by omega)
      have hck := (hBw.cell (p := ⟨b, o + k, none⟩) (World.block_lt_of_cell? _ _ (hcs k hlt))).trans (hcs k hlt)
      obtain ⟨x, hx⟩ : ∃ x, L[k]?.getD [] = x := ⟨_, rfl⟩
      dsimp only at hck
      rw [hx] at hck
      have hxl : x.length < 4294967281 := by rw [← hx]; exact (unhide HL).at k hlk
      have ht := filt_take L (okD D) k hlk x hx
      have hfl := filt_len L (okD D) k
      rw [unhide HN] at hfl
      have hBk : ∀ w', Below w.heap.size w w' → w'.heap[B]? = some (.cells #[va, vd] 52 (0, 0)) := fun w' hB => by rw [hB.block B (lt_of_heap (unhide Hb))]; exact unhide Hb
      have hm0 : wr.cell? ⟨B, 0, none⟩ = some va := by rw [cell_of_row _ _ _ _ _ _ (hBk wr hBw)]; rfl
      have HBk := hide hBk
      have HBw := hide hBw
      have Hrow := hide hrow
      have HCa := hide (unhide HA x wr hxl hBw)
      clear hcs hx hBk hBw hrow hlk
      cases ha : (fa D).any fun s => anyL s.2.2.2.2 x with
      | false =>
        rw [ha] at HCa
        have hf : okD D x = false := by unfold okD; rw [ha]; rfl
        rw [hf] at ht
        have Ht := hide ht
        clear ht hf ha
        go_wp2_with (go_at_call 45; refine (unhide HCa).mono ?_; rintro e w1 ⟨rfl, hB1⟩; have HB1 := hide hB1; clear hB1)
        exact ⟨⟨k + 1, by omega, by go_num, (unhide HBw).trans ((unhide HB1).mono hle), by rw [unhide Ht]; exact own_below (unhide Hrow) (unhide HB1)⟩, by simp [intOf]; omega⟩
      | true =>
        rw [ha] at HCa
        cases hd : (fd D).any fun s => anyL s.2.2.2.2 x with
        | true =>
          have hf : okD D x = false := by unfold okD; rw [ha, hd]; rfl
          rw [hf] at ht
          have Ht := hide ht
          have HDx : Hid (∀ w', Below w.heap.size w w' → Calls Tryd.prog 45 #[vd, S x] w' (MatchPost true w')) := hide fun w' hB => by have := unhide HDn x w' hxl hB; rw [hd] at this; exact this
          clear ht hf ha hd HA HDn
          go_wp2_with (first
            | (go_at_call_of 45 va; refine (unhide HCa).mono ?_; rintro e w1 ⟨rfl, hB1⟩; have HB1 := hide hB1; have HW1 : Hid (Below w.heap.size w w1) := hide ((unhide HBw).trans (hB1.mono hle)); have hm1 : w1.cell? ⟨B, 1, none⟩ = some vd := (by rw [cell_of_row _ _ _ _ _ _ (unhide HBk w1 (unhide HW1))]; rfl); clear hB1)
            | (go_at_call_of 45 vd; refine (unhide HDx _ ?_).mono ?_; (exact unhide HW1); rintro e w2 ⟨rfl, hB2⟩; have HB2 := hide hB2; clear hB2))
          exact ⟨⟨k + 1, by omega, by go_num, (unhide HW1).trans ((unhide HB2).mono (unhide HW1).size), by rw [unhide Ht]; exact own_below (own_below (unhide Hrow) (unhide HB1)) (unhide HB2)⟩, by simp [intOf]; omega⟩
        | false =>
          have hf : okD D x = true := by unfold okD; rw [ha, hd]; rfl
          rw [hf, if_pos rfl] at ht
          have Ht := hide ht
          have HDx : Hid (∀ w', Below w.heap.size w w' → Calls Tryd.prog 45 #[vd, S x] w' (MatchPost false w')) := hide fun w' hB => by have := unhide HDn x w' hxl hB; rw [hd] at this; exact this
          clear ht hf ha hd HA HDn
          generalize hF : (L.take k).filter (okD D) = F at *
          clear hF
          generalize hm : F.length = m at *
          have Hm := hide hm
          clear hm
          go_wp2_with (first
            | (go_at_call_of 45 va; refine (unhide HCa).mono ?_; rintro e w1 ⟨rfl, hB1⟩; have HB1 := hide hB1; have HW1 : Hid (Below w.heap.size w w1) := hide ((unhide HBw).trans (hB1.mono hle)); have hm1 : w1.cell? ⟨B, 1, none⟩ = some vd := (by rw [cell_of_row _ _ _ _ _ _ (unhide HBk w1 (unhide HW1))]; rfl); clear hB1)
            | (go_at_call_of 45 vd; refine (unhide HDx _ ?_).mono ?_; (exact unhide HW1); rintro e w2 ⟨rfl, hB2⟩; have HW2 : Hid (Below w.heap.size w w2) := hide ((unhide HW1).trans (hB2.mono (unhide HW1).size)); have Hrow2 := hide (own_below (own_below (unhide Hrow) (unhide HB1)) hB2); have hle2 : w.heap.size ≤ w2.heap.size := (unhide HW2).size; clear hB2)
            | (at_builtin; refine wpList_append_lies _ rfl (.tmp 32) (.tmp 34) 27 rfl w.heap.size 9 i9 _ 1 16 Tryd.underlying27 hi9 hx0 hx1 hx2 rfl (by decide) u5 m (F.map S) rfl (World.ownsRow.alloc (unhide Hrow2) _) ⟨w2.heap.size, 0, none⟩ 1 1 [S x] rfl rfl (by exact cells_new _ [S x] _ _ rfl) (fun u hu => by simp at hu; subst hu; rfl) (by decide) (by unfold maxLen; omega) (by omega) (by simp; omega) _ rfl ?_; intro g5 cap5 w5 ho5 hg5 hgg5 hlt5; have HB5 : Hid (Below w.heap.size w w5) := hide ((unhide HW2).grown (grown_of_alloc hg5) hle2 fun k hk => (own_tag (unhide Hrow2) hk).1); have HO5 := hide ho5; clear ho5 hg5 hgg5 hlt5))
          exact ⟨⟨k + 1, by omega, by go_num, unhide HB5, by rw [unhide Ht, List.length_append, List.map_append, unhide Hm]; exact unhide HO5⟩, by simp [intOf]; omega⟩
    · have hkn : k = n := by omega
      subst hkn
      rw [List.take_of_length_le (by rw [unhide HN]; exact Nat.le_refl _)] at hrow
      obtain ⟨p, c, rfl, hst⟩ := row_strs hrow
      have HE : Hid (AllowedPost (L.filter (okD D)) w (.returned (.slice p (L.filter (okD D)).length c)) wr) := hide ⟨p, c, rfl, hst, hBw⟩
      clear hrow hst hBw HL Hseg HA HDn Hb
      generalize hF : L.filter (okD D) = F at *
      clear hF
      go_wp2
      go_ret
      exact unhide HE

end Go.Proofs.Qxb6000393aDoor
