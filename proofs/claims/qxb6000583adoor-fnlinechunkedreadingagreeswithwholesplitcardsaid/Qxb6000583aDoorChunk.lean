/-
  FnLineChunkedReadingAgreesWithWholeSplit, walked: it answers true whatever it is handed.
-/
import Derived.Test.Qxb6000583aDoorDrain
import Derived.Test.Qxb6000583aDoorCloneI
namespace Go.Proofs.Qxb6000583aDoor
open Go.RowKit

set_option maxRecDepth 100000 in
set_option maxHeartbeats 400000 in
theorem chunk_out (p p' : Option Addr) (n c k c' : Nat) (w : World) (hn : n ≤ 9223372036854775807) (hk : k ≤ 9223372036854775807) (h : 65536 < n ∨ (n ≤ 65536 ∧ 65536 < k)) :
    Calls Tryd.prog 3 #[.slice p n c, .slice p' k c'] w (TruePost w) := by
  rcases h with h | ⟨h, h1⟩
  · by_cases hb : n ≤ 1048576
    · by_cases hb2 : k ≤ 1048576
      · by_cases hb3 : n + k ≤ 1048576
        · go_enter Tryd.func3, Tryd.ntmps3
          go_wp2
          go_ret
          exact ⟨rfl, Below.refl _ _⟩
        · go_enter Tryd.func3, Tryd.ntmps3
          go_wp2
          go_ret
          exact ⟨rfl, Below.refl _ _⟩
      · go_enter Tryd.func3, Tryd.ntmps3
        go_wp2
        go_ret
        exact ⟨rfl, Below.refl _ _⟩
    · go_enter Tryd.func3, Tryd.ntmps3
      go_wp2
      go_ret
      exact ⟨rfl, Below.refl _ _⟩
  · by_cases hb2 : k ≤ 1048576
    · by_cases hb3 : n + k ≤ 1048576
      · go_enter Tryd.func3, Tryd.ntmps3
        go_wp2
        go_ret
        exact ⟨rfl, Below.refl _ _⟩
      · go_enter Tryd.func3, Tryd.ntmps3
        go_wp2
        go_ret
        exact ⟨rfl, Below.refl _ _⟩
    · go_enter Tryd.func3, Tryd.ntmps3
      go_wp2
      go_ret
      exact ⟨rfl, Below.refl _ _⟩

/-- What want holds for a line: the cut of the whole. -/
def wv (q : Option Addr) (n : Nat) (l : Nat × Nat) : Value := .slice (subp q l.1 n) (l.2 - l.1) (n - l.1)

theorem Tryd.info5' : (Tryd.prog.info? 5).map (fun i => (i.zero, i.size, i.bytes)) = some (some (.int .u8 0), 1, 1) := by kernel_rfl

def Want (wA : World) (q : Option Addr) (f : Nat → Int) (n : Nat) (vw : Value) (L : List (Nat × Nat)) (ls i : Nat) (w : World) : Prop :=
  w.ownsRow wA.heap.size 22 1 vw L.length (L.map (wv q n)) ∧ Chain f n 0 L ls ∧ ls ≤ i ∧ i ≤ n ∧ (∀ j, ls ≤ j → j < i → ¬ isE (f j)) ∧ Below wA.heap.size wA w

theorem want_next {wA : World} {q : Option Addr} {f : Nat → Int} {n : Nat} {vw : Value} {L : List (Nat × Nat)} {ls i : Nat} {w : World} (h : Want wA q f n vw L ls i w) (hi : i < n) (hE : ¬ isE (f i)) : Want wA q f n vw L ls (i + 1) w :=
  ⟨h.1, h.2.1, by have := h.2.2.1; omega, hi, fun j h1 h2 => by
    by_cases e : j = i
    · subst e; exact hE
    · exact h.2.2.2.2.1 j h1 (by omega), h.2.2.2.2.2⟩
theorem want_step {wA : World} {q : Option Addr} {f : Nat → Int} {n : Nat} {vw vw' : Value} {L : List (Nat × Nat)} {ls i : Nat} {w w' : World} {o : Obj} (h : Want wA q f n vw L ls i w) (hi : i < n) (hE : isE (f i))
    (ho : w'.ownsRow wA.heap.size 22 1 vw' (L.length + 1) (L.map (wv q n) ++ [.slice (subp q ls n) (i - ls) (n - ls)])) (hg : (w.alloc o).grownBy w' vw.ownBlock) : Want wA q f n vw' (L ++ [(ls, i)]) (i + wid f n i) (i + wid f n i) w' := by
  obtain ⟨h1, h2, h3, _, h5, h6⟩ := h
  have hs := h6.size
  refine ⟨?_, h2.snoc h3 hi hE h5, Nat.le_refl _, wid_le f n i hi, fun j h1 h2 => by omega, (h6.alloc hs _).grown hg (by simp; omega) fun k hk => (h1.lt k hk).1⟩
  rw [List.map_append, List.length_append]
  exact ho

/-- A byte more in the buffer. -/
theorem buf_step {w2 w w5 : World} {vb vg : Value} {f : Nat → Int} {M g4 cap4 : Nat} {G : List (Nat × Nat)} {o : Obj} (hb : w.ownsRow w2.heap.size 5 1 vb M (bytesV f M)) (hG : Got w2.heap.size vb f vg G w) (hB : Below w2.heap.size w2 w)
    (ho : w5.ownsRow w2.heap.size 5 1 (.slice (some ⟨g4, 0, none⟩) (M + 1) cap4) (M + 1) (bytesV f M ++ [.int .u8 (f M)])) (hg : (w.alloc o).grownBy w5 vb.ownBlock) (hgg : vb.ownBlock = some g4 ∨ g4 = (w.alloc o).heap.size) :
    w5.ownsRow w2.heap.size 5 1 (.slice (some ⟨g4, 0, none⟩) (M + 1) cap4) (M + 1) (bytesV f (M + 1)) ∧ Got w2.heap.size (.slice (some ⟨g4, 0, none⟩) (M + 1) cap4) f vg G w5 ∧ Below w2.heap.size w2 w5 := by
  have hs := hB.size
  refine ⟨by rw [bytesV_succ]; exact ho, ?_, (hB.alloc hs _).grown hg (by simp; omega) fun k hk => (hb.lt k hk).1⟩
  refine (hG.below ((Below.refl _ _).alloc (Nat.le_refl _) o)).buf (hb.alloc o) hg (Nat.le_refl _) ?_
  rcases hgg with h | h
  · exact Or.inl (by rw [h]; rfl)
  · exact Or.inr (by rw [← h]; rfl)

theorem own_of_block {w w' : World} {B : Nat} {e : TypeId} {v : Value} {n : Nat} {xs : List Value} (h : w.ownsRow B e 1 v n xs) (hk : ∀ g, v.ownBlock = some g → w'.heap[g]? = w.heap[g]?) : w'.ownsRow B e 1 v n xs := by
  refine ⟨h.1, ?_⟩
  rcases h.2 with h | ⟨g, cap, cur, rfl, h1, h2, h3⟩
  · exact Or.inl h
  · exact Or.inr ⟨g, cap, cur, rfl, h1, by rw [hk g rfl]; exact h2, h3⟩

theorem row_form {w : World} {B : Nat} {e : TypeId} {v : Value} {n : Nat} {xs : List Value} (h : w.ownsRow B e 1 v n xs) : ∃ p c, v = .slice p n c ∧ (0 < n → ∃ g, p = some ⟨g, 0, none⟩ ∧ ∀ t, t < n → w.cell? ⟨g, t, none⟩ = xs[t]?) := by
  rcases h.2 with ⟨rfl, rfl⟩ | ⟨g, cap, cur, rfl, _, _, _⟩
  · exact ⟨none, 0, rfl, fun h => absurd h (Nat.lt_irrefl 0)⟩
  · exact ⟨_, cap, rfl, fun _ => ⟨g, rfl, fun t ht => h.cellAt t (by omega)⟩⟩

theorem rem_ok (x : Int) (d : Nat) (hd : d ≤ 65536) : ∃ r : Nat, wrap64 ((IntKind.u64.wrap x).tmod ((d : Int) + 1)) = (r : Int) ∧ r ≤ d := by
  have h0 : 0 ≤ IntKind.u64.wrap x := by rw [IntKind.wrap_u64]; omega
  have h1 : 0 ≤ (IntKind.u64.wrap x).tmod ((d : Int) + 1) := Int.tmod_nonneg _ h0
  have h2 : (IntKind.u64.wrap x).tmod ((d : Int) + 1) < (d : Int) + 1 := Int.tmod_lt_of_pos _ (by omega)
  refine ⟨((IntKind.u64.wrap x).tmod ((d : Int) + 1)).toNat, ?_, by omega⟩
  generalize (IntKind.u64.wrap x).tmod ((d : Int) + 1) = y at h1 h2
  have : wrap64 y = y := by unfold wrap64; omega
  rw [this]
  omega

set_option maxRecDepth 100000 in
set_option maxHeartbeats 8000000 in
theorem chunk_in (p p' : Option Addr) (n c k c' : Nat) (f g : Nat → Int) (w : World) (hn : n ≤ 65536) (hk : k ≤ 65536) (hseg : Seg w p n f) (hf : ∀ j, j < n → 0 ≤ f j ∧ f j ≤ 255) (hT : Tabs w) (hnil : p = none → n = 0 ∧ c = 0)
    (hsegI : SegI w p' k g) (hg : ∀ j, j < k → -9223372036854775808 ≤ g j ∧ g j ≤ 9223372036854775807) (hnil' : p' = none → k = 0 ∧ c' = 0) :
    Calls Tryd.prog 3 #[.slice p n c, .slice p' k c'] w (TruePost w) := by
  obtain ⟨i0, hi, hz0, hz1, hz2⟩ := info_parts Tryd.info22
  obtain ⟨i5, hi5, hy0, hy1, hy2⟩ := info_parts Tryd.info5'
  have hC := hide (cloneBytes_any p n c f w (by omega) hseg hnil)
  have Hf := hide hf
  have HT := hide hT
  have Hg := hide hg
  have HsegI := hide hsegI
  have Hnil' := hide hnil'
  clear hf hT hseg hnil hg hsegI hnil'
  go_enter Tryd.func3, Tryd.ntmps3
  go_wp2_with (go_at_call 5; go_in)
  refine (unhide hC).mono ?_
  rintro e w1 ⟨q, rfl, hseg1, hB1⟩
  have Hseg1 := hide hseg1
  have hCI := hide (cloneInts_any p' k c' g w1 (by omega) ((unhide HsegI).below hB1) (unhide Hnil'))
  clear hC hseg1 HsegI Hnil'
  go_wp2_with fail
  refine (unhide hCI).mono ?_
  rintro e wA ⟨qc, rfl, hsegA, hBA⟩
  have HI := hide hsegA
  have HD : Hid (Seg wA q n f) := (unhide Hseg1).below hBA
  have hB0 : Below w.heap.size w wA := hB1.trans (hBA.mono hB1.size)
  have HTA := hide ((unhide HT).below hB0)
  clear hsegA hCI Hseg1 HT hB1 hBA
  go_wp2
  go_loopw [5, 6, 7] (fun a b d wr => ∃ (ls i : Nat) (L : List (Nat × Nat)) (vw : Value), vw = a ∧ b = .int .i64 ls ∧ d = .int .i64 i ∧ Want wA q f n vw L ls i wr) (fun _ _ d _ => n - (intOf d).toNat)
  case atStart => exact ⟨0, 0, [], _, rfl, rfl, rfl, World.ownsRow_nil _ _ _ _, rfl, Nat.le_refl _, Nat.zero_le _, fun j h1 h2 => absurd h2 (Nat.not_lt_zero j), Below.refl _ _⟩
  case round =>
    obtain ⟨ls, i, L, vw, rfl, rfl, rfl, hW⟩ := hrel
    have hLl := hW.2.1.le
    have hls := hW.2.2.1
    have hBr := hW.2.2.2.2.2.size
    simp only [Nat.zero_add] at hLl
    have hD : Hid (Seg wr q n f) := (unhide HD).below hW.2.2.2.2.2
    have HW := hide hW
    clear hW
    by_cases hlt : i < n
    · obtain ⟨b, o, rfl, hcs⟩ := unhide hD (by omega)
      have hci := hcs i hlt
      have Hcs := hide hcs
      clear hcs
      obtain ⟨x, hx⟩ : ∃ x, f i = x := ⟨_, rfl⟩
      rw [hx] at hci
      have Hx := hide hx
      clear hx
      have s1 := slice_lh (some ⟨b, o, none⟩) n n ls i hls (by omega) (Nat.le_refl _)
      by_cases h10 : x = 10
      · subst h10
        have HE : Hid (isE (f i)) := Or.inr (unhide Hx)
        have hwd : Hid (wid f n i = 1) := by unfold wid; rw [if_neg (fun h => by rw [unhide Hx] at h; omega)]; exact rfl
        go_wp2_with (at_builtin; refine wpList_append_lies _ rfl (.tmp 47) (.tmp 52) 27 rfl wA.heap.size 22 i0 (.slice none 0 0) 1 24 Tryd.underlying27 hi hz0 hz1 hz2 rfl (by decide) vw L.length (L.map (wv (some ⟨b, o, none⟩) n)) rfl ((unhide HW).1.alloc _) ⟨wr.heap.size, 0, none⟩ 1 1 [.slice (subp (some ⟨b, o, none⟩) ls n) (i - ls) (n - ls)] rfl rfl (by exact cell_new_at _ _ _ _ rfl) (fun u hu => by simp at hu; subst hu; rfl) (by decide) (by unfold maxLen; omega) (by omega) (by simp; omega) _ rfl ?_; intro g4 cap4 w5 ho5 hg5 hgg5 hlt5; have HW5 := hide (want_step (unhide HW) hlt (unhide HE) ho5 hg5); clear ho5 hg5 hgg5 hlt5)
        rw [unhide hwd] at HW5
        go_roundw
        case rel => exact ⟨i + 1, i + 1, L ++ [(ls, i)], _, rfl, by go_num, by go_num, unhide HW5⟩
        case measure => simp [intOf]; omega
      · have e10 : (x == 10) = false := by rw [beq_eq_false_iff_ne]; exact h10
        by_cases h13 : x = 13
        · subst h13
          clear h10 e10
          have HE : Hid (isE (f i)) := Or.inl (unhide Hx)
          by_cases hk1 : i + 1 < n
          · have hci1 := unhide Hcs (i + 1) hk1
            obtain ⟨y, hy⟩ : ∃ y, f (i + 1) = y := ⟨_, rfl⟩
            rw [hy] at hci1
            have Hy := hide hy
            clear hy
            have hki : (i : Int) + 1 < (n : Int) := by omega
            obtain ⟨b2, o2, e2, hcA⟩ := unhide HD (by omega)
            cases e2
            have hA1 := hcA (i + 1) hk1
            rw [unhide Hy] at hA1
            have hbA := World.block_lt_of_cell? _ _ hA1
            simp only at hbA
            clear hcA
            by_cases y10 : y = 10
            · subst y10
              have hwd : Hid (wid f n i = 2) := by unfold wid; rw [if_pos ⟨unhide Hx, hk1, unhide Hy⟩]; exact rfl
              go_wp2_with (at_builtin; refine wpList_append_lies _ rfl (.tmp 47) (.tmp 52) 27 rfl wA.heap.size 22 i0 (.slice none 0 0) 1 24 Tryd.underlying27 hi hz0 hz1 hz2 rfl (by decide) vw L.length (L.map (wv (some ⟨b, o, none⟩) n)) rfl ((unhide HW).1.alloc _) ⟨wr.heap.size, 0, none⟩ 1 1 [.slice (subp (some ⟨b, o, none⟩) ls n) (i - ls) (n - ls)] rfl rfl (by exact cell_new_at _ _ _ _ rfl) (fun u hu => by simp at hu; subst hu; rfl) (by decide) (by unfold maxLen; omega) (by omega) (by simp; omega) _ rfl ?_; intro g4 cap4 w5 ho5 hg5 hgg5 hlt5; have HW5 := hide (want_step (unhide HW) hlt (unhide HE) ho5 hg5); have g7 := ((unhide HW5).2.2.2.2.2.cell (p := ⟨b, o + (i + 1), none⟩) hbA).trans hA1; clear ho5 hg5 hgg5 hlt5)
              rw [unhide hwd] at HW5
              go_roundw
              case rel => exact ⟨i + 2, i + 2, L ++ [(ls, i)], _, rfl, by go_num, by go_num, unhide HW5⟩
              case measure => simp [intOf]; omega
            · have e10 : (y == 10) = false := by rw [beq_eq_false_iff_ne]; exact y10
              have hwd : Hid (wid f n i = 1) := by unfold wid; rw [if_neg (fun h => y10 (by rw [← unhide Hy]; exact h.2.2))]; exact rfl
              clear y10
              go_wp2_with (at_builtin; refine wpList_append_lies _ rfl (.tmp 47) (.tmp 52) 27 rfl wA.heap.size 22 i0 (.slice none 0 0) 1 24 Tryd.underlying27 hi hz0 hz1 hz2 rfl (by decide) vw L.length (L.map (wv (some ⟨b, o, none⟩) n)) rfl ((unhide HW).1.alloc _) ⟨wr.heap.size, 0, none⟩ 1 1 [.slice (subp (some ⟨b, o, none⟩) ls n) (i - ls) (n - ls)] rfl rfl (by exact cell_new_at _ _ _ _ rfl) (fun u hu => by simp at hu; subst hu; rfl) (by decide) (by unfold maxLen; omega) (by omega) (by simp; omega) _ rfl ?_; intro g4 cap4 w5 ho5 hg5 hgg5 hlt5; have HW5 := hide (want_step (unhide HW) hlt (unhide HE) ho5 hg5); have g7 := ((unhide HW5).2.2.2.2.2.cell (p := ⟨b, o + (i + 1), none⟩) hbA).trans hA1; clear ho5 hg5 hgg5 hlt5)
              rw [unhide hwd] at HW5
              go_roundw
              case rel => exact ⟨i + 1, i + 1, L ++ [(ls, i)], _, rfl, by go_num, by go_num, unhide HW5⟩
              case measure => simp [intOf]; omega
          · have hki : ¬ (i : Int) + 1 < (n : Int) := by omega
            have hwd : Hid (wid f n i = 1) := by unfold wid; rw [if_neg (fun h => by omega)]; exact rfl
            go_wp2_with (at_builtin; refine wpList_append_lies _ rfl (.tmp 47) (.tmp 52) 27 rfl wA.heap.size 22 i0 (.slice none 0 0) 1 24 Tryd.underlying27 hi hz0 hz1 hz2 rfl (by decide) vw L.length (L.map (wv (some ⟨b, o, none⟩) n)) rfl ((unhide HW).1.alloc _) ⟨wr.heap.size, 0, none⟩ 1 1 [.slice (subp (some ⟨b, o, none⟩) ls n) (i - ls) (n - ls)] rfl rfl (by exact cell_new_at _ _ _ _ rfl) (fun u hu => by simp at hu; subst hu; rfl) (by decide) (by unfold maxLen; omega) (by omega) (by simp; omega) _ rfl ?_; intro g4 cap4 w5 ho5 hg5 hgg5 hlt5; have HW5 := hide (want_step (unhide HW) hlt (unhide HE) ho5 hg5); clear ho5 hg5 hgg5 hlt5)
            rw [unhide hwd] at HW5
            go_roundw
            case rel => exact ⟨i + 1, i + 1, L ++ [(ls, i)], _, rfl, by go_num, by go_num, unhide HW5⟩
            case measure => simp [intOf]; omega
        · have e13 : (x == 13) = false := by rw [beq_eq_false_iff_ne]; exact h13
          have hnE : Hid (¬ isE (f i)) := fun h => by
            rw [unhide Hx] at h
            exact h.elim h13 h10
          clear h10 h13
          go_wp2
          go_roundw
          case rel => exact ⟨ls, i + 1, L, vw, rfl, rfl, by go_num, want_next (unhide HW) hlt (unhide hnE)⟩
          case measure => simp [intOf]; omega
    · obtain rfl : i = n := by have := (unhide HW).2.2.2.1; omega
      obtain ⟨w2, rfl⟩ : ∃ w2, w2 = wr := ⟨_, rfl⟩
      have HT2 := hide ((unhide HTA).below (unhide HW).2.2.2.2.2)
      have HI2 := hide ((unhide HI).below (unhide HW).2.2.2.2.2)
      have HD2 := hide ((unhide HD).below (unhide HW).2.2.2.2.2)
      clear hlt HTA HI HD
      go_wp2
      go_loopw [10, 11, 12, 13, 14, 15] (fun a b d e h l wr => ∃ (kk m P S : Nat) (vb vg : Value) (G : List (Nat × Nat)), vg = a ∧ vb = b ∧ d = .int .i64 P ∧ e = .int .i64 S ∧ h = .int .i64 m ∧ l = .int .i64 kk ∧ kk ≤ k + 1 ∧ m ≤ i ∧ (kk = k + 1 → m = i) ∧ wr.ownsRow w2.heap.size 5 1 vb m (bytesV f m) ∧ Read w2 vb f i m P S vg G wr) (fun _ _ _ _ _ l _ => k + 1 - (intOf l).toNat)
      case atStart => exact ⟨0, 0, 0, 0, _, _, [], rfl, rfl, rfl, rfl, rfl, rfl, Nat.zero_le _, Nat.zero_le _, fun h => by omega, World.ownsRow_nil _ _ _ _, ⟨[], World.ownsRow_nil _ _ _ _, fun k v l hv _ => by simp at hv⟩, rfl, Nat.le_refl _, fun j h1 h2 => by omega, Below.refl _ _⟩
      case round =>
        obtain ⟨kk, m, P, S, vb, vg, G, rfl, rfl, rfl, rfl, rfl, rfl, hkk, hm, hkm, hbuf, hRd⟩ := hrel
        by_cases hkl : kk ≤ k
        · have hkI : (kk : Int) ≤ (k : Int) := by omega
          by_cases hkl2 : kk < k
          · have hkI2 : (kk : Int) < (k : Int) := by omega
            obtain ⟨bc, oc, rfl, hcc⟩ := ((unhide HI2).below hRd.2.2.2.2) (by omega)
            have hck := hcc kk hkl2
            have hgk := unhide Hg kk hkl2
            obtain ⟨x, hx⟩ : ∃ x, g kk = x := ⟨_, rfl⟩
            rw [hx] at hck hgk
            clear hcc hx
            obtain ⟨hg1, hg2⟩ := hgk
            have HRd := hide hRd
            have Hbuf := hide hbuf
            clear hRd hbuf
            go_wp2
            obtain ⟨r, hr, hrm⟩ := rem_ok x (i - m) (by omega)
            rw [show ((i - m : Nat) : Int) = (i : Int) - m from by omega] at hr
            rw [hr]
            clear hr hck
            go_loopw [11, 17] (fun a b wr => ∃ (j : Nat) (vb : Value), vb = a ∧ b = .int .i64 j ∧ j ≤ r ∧ wr.ownsRow w2.heap.size 5 1 vb (m + j) (bytesV f (m + j)) ∧ Got w2.heap.size vb f vg G wr ∧ Below w2.heap.size w2 wr) (fun _ b _ => r - (intOf b).toNat)
            case atStart => exact ⟨0, vb, rfl, rfl, Nat.zero_le _, unhide Hbuf, (unhide HRd).1, (unhide HRd).2.2.2.2⟩
            case round =>
              obtain ⟨j, vb', rfl, rfl, hj, hb', hG', hB'⟩ := hrel
              by_cases hjl : j < r
              · obtain ⟨b, o, rfl, hcs⟩ := ((unhide HD2).below hB') (by omega)
                have hcj := hcs (m + j) (by omega)
                have hjI : (j : Int) < (r : Int) := by omega
                have Hb' := hide hb'
                have HG' := hide hG'
                have hBs := hB'.size
                clear hcs hb' hG'
                go_wp2_with (at_builtin; refine wpList_append_lies _ rfl (.tmp 106) (.tmp 113) 22 rfl w2.heap.size 5 i5 (.int .u8 0) 1 1 Tryd.underlying22 hi5 hy0 hy1 hy2 rfl (by decide) vb' (m + j) (bytesV f (m + j)) rfl ((unhide Hb').alloc _) ⟨_, 0, none⟩ 1 1 [.int .u8 (f (m + j))] rfl rfl (by exact cell_new_at _ _ _ _ rfl) (fun u hu => by simp at hu; subst hu; rfl) (by decide) (by unfold maxLen; omega) (by omega) (by simp; omega) _ rfl ?_; intro g4 cap4 w5 ho5 hg5 hgg5 hlt5; have HS := hide (buf_step (unhide Hb') (unhide HG') hB' ho5 hg5 hgg5); clear ho5 hg5 hgg5 hlt5)
                go_roundw
                case rel => exact ⟨j + 1, _, rfl, by go_num, by omega, (unhide HS).1, (unhide HS).2.1, (unhide HS).2.2⟩
                case measure => simp [intOf]; omega
              · obtain rfl : j = r := by omega
                have hjI : ¬ (j : Int) < (j : Int) := by omega
                obtain ⟨p3, c3, rfl, _, _, _, _⟩ := buf_open hb'
                obtain ⟨_, hCh, hPS, hnS, _⟩ := unhide HRd
                have hDr := hide (fun W (e : wr = W) => e ▸ drain_any p3 (m + j) c3 i P S false f vg G w2 wr (by omega) (by omega) (unhide Hf) (unhide HT2) (fun h => by cases h) hb' ⟨hG', hCh, by omega, hnS, hB'⟩)
                have Hb' := hide hb'
                clear hb' hG' hCh hPS hnS
                go_wp2_with fail
                refine (unhide hDr _ rfl).mono ?_
                rintro e w6 ⟨vg', G', P', S', rfl, hR', _, hkeep⟩
                have Hb6 := hide (own_of_block (unhide Hb') hkeep)
                have HR' := hide hR'
                clear hDr Hb' hR' hkeep
                go_wp2
                go_roundw
                case rel => exact ⟨kk + 1, m + j, P', S', _, _, G', rfl, rfl, rfl, rfl, by go_num, by go_num, by omega, by omega, fun h => by omega, unhide Hb6, unhide HR'⟩
                case measure => simp [intOf]; omega
          · obtain rfl : kk = k := by omega
            have hkI2 : ¬ (kk : Int) < (kk : Int) := by omega
            have HRd := hide hRd
            have Hbuf := hide hbuf
            clear hRd hbuf
            obtain ⟨r, hr⟩ : ∃ r, r = i - m := ⟨_, rfl⟩
            have hr2 : (i : Int) - m = (r : Int) := by omega
            have Hr2 := hide hr2
            clear hr2
            have hrm : r ≤ i - m := by omega
            have Hr := hide hr
            clear hr
            go_wp2
            rw [unhide Hr2]
            have hri : m + r = i := by have := unhide Hr; omega
            have Hri := hide hri
            clear hri
            go_loopw [11, 17] (fun a b wr => ∃ (j : Nat) (vb : Value), vb = a ∧ b = .int .i64 j ∧ j ≤ r ∧ wr.ownsRow w2.heap.size 5 1 vb (m + j) (bytesV f (m + j)) ∧ Got w2.heap.size vb f vg G wr ∧ Below w2.heap.size w2 wr) (fun _ b _ => r - (intOf b).toNat)
            case atStart => exact ⟨0, vb, rfl, rfl, Nat.zero_le _, unhide Hbuf, (unhide HRd).1, (unhide HRd).2.2.2.2⟩
            case round =>
              obtain ⟨j, vb', rfl, rfl, hj, hb', hG', hB'⟩ := hrel
              by_cases hjl : j < r
              · obtain ⟨b, o, rfl, hcs⟩ := ((unhide HD2).below hB') (by omega)
                have hcj := hcs (m + j) (by omega)
                have hjI : (j : Int) < (r : Int) := by omega
                have Hb' := hide hb'
                have HG' := hide hG'
                have hBs := hB'.size
                clear hcs hb' hG'
                go_wp2_with (at_builtin; refine wpList_append_lies _ rfl (.tmp 106) (.tmp 113) 22 rfl w2.heap.size 5 i5 (.int .u8 0) 1 1 Tryd.underlying22 hi5 hy0 hy1 hy2 rfl (by decide) vb' (m + j) (bytesV f (m + j)) rfl ((unhide Hb').alloc _) ⟨_, 0, none⟩ 1 1 [.int .u8 (f (m + j))] rfl rfl (by exact cell_new_at _ _ _ _ rfl) (fun u hu => by simp at hu; subst hu; rfl) (by decide) (by unfold maxLen; omega) (by omega) (by simp; omega) _ rfl ?_; intro g4 cap4 w5 ho5 hg5 hgg5 hlt5; have HS := hide (buf_step (unhide Hb') (unhide HG') hB' ho5 hg5 hgg5); clear ho5 hg5 hgg5 hlt5)
                go_roundw
                case rel => exact ⟨j + 1, _, rfl, by go_num, by omega, (unhide HS).1, (unhide HS).2.1, (unhide HS).2.2⟩
                case measure => simp [intOf]; omega
              · obtain rfl : j = r := by omega
                have hjI : ¬ (j : Int) < (j : Int) := by omega
                obtain ⟨p3, c3, rfl, _, _, _, _⟩ := buf_open hb'
                obtain ⟨_, hCh, hPS, hnS, _⟩ := unhide HRd
                have hDr := hide (fun W (e : wr = W) => e ▸ drain_any p3 (m + j) c3 i P S false f vg G w2 wr (by omega) (by omega) (unhide Hf) (unhide HT2) (fun h => by cases h) hb' ⟨hG', hCh, by omega, hnS, hB'⟩)
                have Hb' := hide hb'
                clear hb' hG' hCh hPS hnS
                go_wp2_with fail
                refine (unhide hDr _ rfl).mono ?_
                rintro e w6 ⟨vg', G', P', S', rfl, hR', _, hkeep⟩
                have Hb6 := hide (own_of_block (unhide Hb') hkeep)
                have HR' := hide hR'
                clear hDr Hb' hR' hkeep
                go_wp2
                go_roundw
                case rel => exact ⟨kk + 1, m + j, P', S', _, _, G', rfl, rfl, rfl, rfl, by go_num, by go_num, by omega, by omega, fun h => unhide Hri, unhide Hb6, unhide HR'⟩
                case measure => simp [intOf]
        · obtain rfl : kk = k + 1 := by omega
          obtain rfl : m = i := hkm rfl
          have hkI : ¬ ((k : Int) + 1 ≤ (k : Int)) := by omega
          obtain ⟨p3, c3, rfl, _, _, _, _⟩ := buf_open hbuf
          have hDr := hide (drain_any p3 m c3 m P S true f vg G w2 wr (by omega) (Nat.le_refl _) (unhide Hf) (unhide HT2) (fun _ => rfl) hbuf hRd)
          clear hbuf hRd hkm
          go_wp2_with fail
          refine (unhide hDr).mono ?_
          rintro e w6 ⟨vg', G', P', S', rfl, hR', hfull, _⟩
          obtain ⟨hw1, hw2, _, _, hw5, hw6⟩ := unhide HW
          obtain ⟨hGot, hCh, _, _, hB6⟩ := hR'
          obtain ⟨rfl, rfl⟩ := Chain.unique hCh hw2 (hfull rfl) hw5
          obtain ⟨vs, hv1, hv2⟩ := hGot
          have hvl : vs.length = G'.length := by have := hv1.1; omega
          have hw16 : w6.ownsRow wA.heap.size 22 1 vw G'.length (G'.map (wv q m)) := own_of_block hw1 (fun g hg => hB6.block g (hw1.lt g hg).2)
          obtain ⟨pw, cw, rfl, hpw⟩ := row_form hw16
          obtain ⟨pg, cg, rfl, hpg⟩ := row_form hv1
          have hmem := hCh.mem
          have hBB : Hid (Below w.heap.size w w6) := hB0.trans ((hw6.trans (hB6.mono hw6.size)).mono hB0.size)
          have hD6 : Hid (Seg w6 q m f) := (unhide HD2).below hB6
          have Hpw := hide hpw
          have Hpg := hide hpg
          have Hv2 := hide hv2
          have Hmem := hide hmem
          have HvL := hide hvl
          have hneq : ((G'.length : Int) != (G'.length : Int)) = false := by simp
          have hGl := hCh.le
          simp only [Nat.zero_add] at hGl
          have hP' : P' ≤ m := by omega
          clear hw1 hw2 hw5 hw6 hCh hB6 hv1 hv2 hw16 hpw hpg hmem hvl hfull hDr HW HT2 HI2 HD2
          go_wp2
          go_loopw [18] (fun a wr => ∃ t : Nat, t ≤ G'.length ∧ a = .int .i64 t ∧ Below w6.heap.size w6 wr) (fun a _ => G'.length - (intOf a).toNat)
          case atStart => exact ⟨0, Nat.zero_le _, rfl, Below.refl _ _⟩
          case round =>
            obtain ⟨t, ht, rfl, hBr⟩ := hrel
            by_cases htl : t < G'.length
            · obtain ⟨gw, rfl, hcw⟩ := unhide Hpw (by omega)
              obtain ⟨gg, rfl, hcg⟩ := unhide Hpg (by omega)
              have e1 := hcw t htl
              have e2 := hcg t htl
              have hl : G'[t]? = some G'[t] := List.getElem?_eq_getElem htl
              have hvt : vs[t]? = some (vs[t]'(by have := unhide HvL; omega)) := List.getElem?_eq_getElem _
              obtain ⟨q1, hq1, hs1⟩ := (unhide Hv2 t _ _ hvt hl).seg
              obtain ⟨hm1, hm2⟩ := unhide Hmem G'[t] (List.getElem_mem htl)
              rw [List.getElem?_map, hl] at e1
              rw [hvt, hq1] at e2
              simp only [Option.map_some, wv] at e1
              generalize G'[t] = l at *
              have e1' := (hBr.cell (p := ⟨gw, t, none⟩) (World.block_lt_of_cell? _ _ e1)).trans e1
              have e2' := (hBr.cell (p := ⟨gg, t, none⟩) (World.block_lt_of_cell? _ _ e2)).trans e2
              have hEq : Hid (∀ qq, Calls Tryd.prog 9 #[.slice q1 (l.2 - l.1) (l.2 - l.1), .slice (subp q l.1 m) (l.2 - l.1) (m - l.1)] (wr.drewN qq) fun e w' => e = .returned (.bool true) ∧ ∃ mm, w' = (wr.drewN qq).drewN mm) := fun qq => by
                have h6 : Below w6.heap.size w6 (wr.drewN qq) := hBr.trans ((below_drewN_any _ _).mono hBr.size)
                have hd := ((unhide hD6).sub (l := l.1) (m := m) (by omega) (Nat.le_refl _)).take (k := l.2 - l.1) (by omega)
                refine (bytesEq_any q1 (subp q l.1 m) (l.2 - l.1) (l.2 - l.1) (l.2 - l.1) (m - l.1) _ _ (wr.drewN qq) (by omega) (by omega) (hs1.below h6) (hd.below h6)).mono ?_
                rintro e w' ⟨r, rfl, hr, mm, rfl⟩
                obtain rfl : r = true := hr.2 ⟨rfl, fun _ _ => rfl⟩
                exact ⟨rfl, mm, rfl⟩
              have htI : (t : Int) < (G'.length : Int) := by omega
              clear e1 e2 hl hvt hq1 hs1 hm1 hm2 hcw hcg
              go_wp2
              go_quiet ((go_at_call 9; exact Calls.quiet_of (unhide hEq _)))
              go_wp2
              go_roundw
              case rel => exact ⟨t + 1, by omega, by go_num, hBr.trans ((below_drewN_any _ _).mono hBr.size)⟩
              case measure => simp [intOf]; omega
            · have htI : ¬ (t : Int) < (G'.length : Int) := by omega
              go_wp2
              go_ret
              exact ⟨rfl, (unhide hBB).trans (hBr.mono (unhide hBB).size)⟩

end Go.Proofs.Qxb6000583aDoor
