/-
  FnAllowedByAgreesWithPlainScan, walked.
-/
import Derived.Test.Qxb6000393aDoorLaw
import Derived.Test.Qxb6000393aDoorSize
import Derived.Test.Qxb6000393aDoorEq
namespace Go.Proofs.Qxb6000393aDoor
open Go.RowKit

def MainPost (w : World) (e : Ending) (w' : World) : Prop := e = .returned (.bool true) ∧ Below w.heap.size w w'

theorem smallZ_of {Z : List ZS} (h0 : Z.length ≤ 1048576) (h : ∀ j, j < Z.length → Bd (Z[j]?.getD z0).2.1 ∧ Bd (Z[j]?.getD z0).2.2.1) : SmallZ Z := ⟨Nat.le_trans h0 (by decide), fun z hz => by
  obtain ⟨j, hj, rfl⟩ := List.getElem_of_mem hz
  have := h j hj
  rw [List.getElem?_eq_getElem hj] at this
  exact ⟨this.1.small, this.2.small⟩⟩

set_option maxRecDepth 100000 in
set_option maxHeartbeats 4000000 in
/-- The law's loop and end, from the two copies on. -/
theorem main6 (v0 v2 : Value) (Z : List ZS) (x : List UInt8) (L : List (List UInt8)) (w : World) (hn : Z.length ≤ 9223372036854775807) (hl : L.length ≤ 9223372036854775807) (hx : x.length ≤ 9223372036854775807) (hz : ∀ j, j < Z.length → (Z[j]?.getD z0).2.1.length ≤ 9223372036854775807 ∧ (Z[j]?.getD z0).2.2.1.length ≤ 9223372036854775807)
    (hp : ∀ z ∈ Z, z.2.2.2 < 256) (hM : HasMax w) (hs : Zs w v0 Z) (hL : Strs w v2 L) : Calls Tryd.prog 6 #[v0, S x, v2] w (MainPost w) := by
  obtain ⟨i9, hi9, hx0, hx1, hx2⟩ := info_parts Tryd.info9
  have HB14 := hide (bytes14 v0 v2 Z x L w hn hl hx hz hs hL)
  have Hp := hide hp
  have HM := hide hM
  have Hs := hide hs
  have HL := hide hL
  have hlx := len_S x
  have cS := cells_S
  simp only [Value.cells] at cS
  clear hp hM hs hL hn hl hz
  go_enter Tryd.func6, Tryd.ntmps6
  go_wp2_with fail
  refine (unhide HB14).mono ?_
  rintro e w0 ⟨r, rfl, hw0, hr⟩
  obtain rfl : w = w0 := hw0.symm
  clear HB14
  cases r with
  | false =>
    clear hr
    go_wp2
    go_ret
    exact ⟨rfl, Below.refl _ _⟩
  | true =>
    obtain ⟨b1, b2, b3, b4, b5⟩ := hr rfl
    clear hr
    have HZ := hide (smallZ_of b1 b3)
    have hq1 : ¬ (1048576 : Int) < (x.length : Int) := by omega
    have hxl : x.length < 4294967281 := by omega
    have HLs := hide b5.small
    have hLn := b5.1
    have H15 := hide (size15 x.length v2 L w (by omega) (unhide HLs).1 (unhide HL))
    have H16 : Hid (∀ N : Nat, N ≤ 4194304 → Calls Tryd.prog 16 #[.int .i64 (N : Int), v0] w (SizePost w)) := hide fun N h => size16 N v0 Z w h (unhide HZ) (unhide Hs)
    have H17 := hide (copy17 v0 Z w (unhide HZ) (unhide Hs))
    clear b3 b5
    go_wp2_with fail
    refine (unhide H15).mono ?_
    rintro e w0 ⟨N1, rfl, hN1, hw0⟩
    obtain rfl : w = w0 := hw0.symm
    clear H15
    go_wp2_with fail
    refine (unhide H16 N1 hN1).mono ?_
    rintro e w0 ⟨N2, rfl, hN2, hw0⟩
    obtain rfl : w = w0 := hw0.symm
    clear H16
    by_cases hN : (1048576 : Int) < (N2 : Int)
    · go_wp2
      go_ret
      exact ⟨rfl, Below.refl _ _⟩
    · go_wp2_with fail
      refine (unhide H17).mono ?_
      rintro e w1 ⟨v1, rfl, hz1, hB1⟩
      have H18 := hide (copy18 v2 L w1 (unhide HLs).1 ((unhide HL).below hB1))
      clear H17
      have HB1 := hide hB1
      have Hz1 := hide hz1
      clear hz1 hB1 Hs HL
      go_wp2_with fail
      refine (unhide H18).mono ?_
      rintro e w2 ⟨p2, c2, rfl, hs2, hB2⟩
      have Hs2 := hide hs2.strs
      have Hz2 := hide ((unhide Hz1).below hB2)
      have HB2 : Hid (Below w.heap.size w w2) := hide ((unhide HB1).trans (hB2.mono (unhide HB1).size))
      have H20 := hide (rof20 v1 Z w2 (unhide HZ) (by omega) (unhide Hp) (unhide Hz2))
      clear H18 hs2 hB2 HB1 Hz1
      go_wp2_with fail
      refine (unhide H20).mono ?_
      rintro e w3 ⟨v3, SL, rfl, hR3, hl3, ho3, hB3⟩
      have h3 : Three Z SL := ⟨hl3, fun j hj => (ho3 j hj).1⟩
      have HB3 : Hid (Below w.heap.size w w3) := hide ((unhide HB2).trans (hB3.mono (unhide HB2).size))
      have Hz3 := hide ((unhide Hz2).below hB3)
      have Hs3 := hide ((unhide Hs2).below hB3)
      have HM3 := hide ((unhide HM).below (unhide HB3))
      have hC := allowedBy19 v3 (.slice p2 L.length c2) (SL.map rsOf) x L w3 (by rw [List.length_map, hl3]; decide) (taken_small Z SL h3 x (by omega) (by omega)) hxl (quots_small Z SL h3 (by omega)) (unhide HLs) (good_rules Z SL h3 w3 (fun j hj => (ho3 j hj).2) (unhide HZ).2) (unhide HM3) hR3 (unhide Hs3)
      rw [show okD (takenL x (SL.map rsOf)) = fun nm => dec x nm Z from funext fun nm => law Z SL h3 x nm] at hC
      have H19 := hide hC
      clear H20 hR3 hl3 ho3 h3 hC hB3 HB2 Hz2 Hs2 HM Hp
      go_wp2_with fail
      refine (unhide H19).mono ?_
      rintro e w4 ⟨p4, c4, rfl, hs4, hB4⟩
      have HB4 : Hid (Below w.heap.size w w4) := hide ((unhide HB3).trans (hB4.mono (unhide HB3).size))
      have Hz4 := hide ((unhide Hz3).below hB4)
      have HM4 := hide ((unhide HM3).below hB4)
      have HG4 := hide hs4
      obtain ⟨p2', c2', e2, hseg⟩ := (unhide Hs3).below hB4
      cases e2
      have Hseg := hide hseg
      clear H19 hs4 hB4 HB3 Hz3 Hs3 HM3 hseg
      generalize hF : L.filter (fun nm => dec x nm Z) = F at *
      have HF := hide hF
      clear hF
      generalize hm : L.length = m at *
      have Hm := hide hm
      clear hm
      go_wp2
      go_loopw [9, 10] (fun v i wr => ∃ k : Nat, k ≤ m ∧ i = .int .i64 k ∧ Below w4.heap.size w4 wr ∧ wr.ownsRow w4.heap.size 9 1 v ((L.take k).filter fun nm => dec x nm Z).length (((L.take k).filter fun nm => dec x nm Z).map S)) (fun _ i _ => m - (intOf i).toNat)
      case atStart => exact ⟨0, Nat.zero_le _, rfl, Below.refl _ _, World.ownsRow_nil _ _ _ _⟩
      case round =>
        obtain ⟨k, hk, rfl, hBw, hrow⟩ := hrel
        have hle := hBw.size
        by_cases hlt : k < m
        · have hlk : k < L.length := by rw [unhide Hm]; exact hlt
          obtain ⟨b, o, rfl, hcs⟩ := unhide Hseg (by omega)
          have hcB : ∀ w', Below w4.heap.size w4 w' → w'.cell? ⟨b, o + k, none⟩ = some (S (L[k]?.getD [])) := fun w' hB => (hB.cell (p := ⟨b, o + k, none⟩) (World.block_lt_of_cell? _ _ (hcs k hlt))).trans (hcs k hlt)
          obtain ⟨y, hy⟩ : ∃ y, L[k]?.getD [] = y := ⟨_, rfl⟩
          rw [hy] at hcB
          have hck := hcB wr hBw
          have hyl : y.length < 4294967281 := by rw [← hy]; exact (unhide HLs).at k hlk
          have ht := filt_take L (fun nm => dec x nm Z) k hlk y hy
          have hfl := filt_len L (fun nm => dec x nm Z) k
          rw [unhide Hm] at hfl
          have HcB := hide hcB
          have HBw := hide hBw
          have Hrow := hide hrow
          have hC := dec21 v1 Z x y wr (unhide HZ) hxl hyl ((unhide HM4).below hBw) ((unhide Hz4).below hBw)
          clear hcs hy hcB hBw hrow hlk
          cases hd : dec x y Z with
          | false =>
            rw [hd] at hC
            rw [hd, if_neg (by decide)] at ht
            have HC := hide hC
            have Ht := hide ht
            clear ht hd hC
            generalize hG : (L.take k).filter (fun nm => dec x nm Z) = G at *
            clear hG
            go_wp2_with (go_at_call 21; refine (unhide HC).mono ?_; rintro e w5 ⟨rfl, hB5⟩; have HB5 := hide hB5; clear hB5)
            exact ⟨⟨k + 1, by omega, by go_num, (unhide HBw).trans ((unhide HB5).mono hle), by rw [unhide Ht]; exact own_below (unhide Hrow) (unhide HB5)⟩, by simp [intOf]; omega⟩
          | true =>
            rw [hd] at hC
            rw [hd, if_pos rfl] at ht
            have HC := hide hC
            have Ht := hide ht
            clear ht hd hC
            generalize hG : (L.take k).filter (fun nm => dec x nm Z) = G at *
            clear hG
            generalize hg : G.length = gn at *
            have Hg := hide hg
            clear hg
            go_wp2_with (first
              | (go_at_call 21; refine (unhide HC).mono ?_; rintro e w5 ⟨rfl, hB5⟩; have HW5 : Hid (Below w4.heap.size w4 w5) := hide ((unhide HBw).trans (hB5.mono hle)); have hck5 := unhide HcB w5 (unhide HW5); have Hrow5 := hide (own_below (unhide Hrow) hB5); have hle5 : w4.heap.size ≤ w5.heap.size := (unhide HW5).size; clear hB5)
              | (at_builtin; refine wpList_append_lies _ rfl (.tmp 50) (.tmp 55) 27 rfl w4.heap.size 9 i9 _ 1 16 Tryd.underlying27 hi9 hx0 hx1 hx2 rfl (by decide) u9 gn (G.map S) rfl (World.ownsRow.alloc (unhide Hrow5) _) ⟨w5.heap.size, 0, none⟩ 1 1 [S y] rfl rfl (by exact cells_new _ [S y] _ _ rfl) (fun u hu => by simp at hu; subst hu; rfl) (by decide) (by unfold maxLen; omega) (by omega) (by simp; omega) _ rfl ?_; intro g6 cap6 w6 ho6 hg6 hgg6 hlt6; have HB6 : Hid (Below w4.heap.size w4 w6) := hide ((unhide HW5).grown (grown_of_alloc hg6) hle5 fun k hk => (own_tag (unhide Hrow5) hk).1); have HO6 := hide ho6; clear ho6 hg6 hgg6 hlt6))
            exact ⟨⟨k + 1, by omega, by go_num, unhide HB6, by rw [unhide Ht, List.length_append, List.map_append, unhide Hg]; exact unhide HO6⟩, by simp [intOf]; omega⟩
        · have he : L.take k = L := List.take_of_length_le (by rw [unhide Hm]; omega)
          rw [he, unhide HF] at hrow
          obtain ⟨p5, c5, rfl, p5', c5', e5, hseg5⟩ := row_strs hrow
          cases e5
          obtain ⟨p4', c4', e4, hseg4⟩ := (unhide HG4).below hBw
          cases e4
          have hFl : F.length ≤ 100000000 := by
            have h1 := List.length_filter_le (fun nm => dec x nm Z) L
            rw [unhide HF, unhide Hm] at h1
            omega
          have HC := hide (same_any p4 p5 F.length c4 c5 (fun j => F[j]?.getD []) wr hFl hseg4 hseg5)
          have HBw := hide hBw
          clear he hrow hseg4 hseg5 hBw hFl
          generalize F.length = fl at *
          go_wp2_with (go_at_call 22; refine (unhide HC).mono ?_; rintro e w5 ⟨rfl, hB5⟩; have HB5 : Hid (Below w.heap.size w w5) := hide ((unhide HB4).trans (((unhide HBw).trans (hB5.mono hle)).mono (unhide HB4).size)); clear hB5)
          go_ret
          exact ⟨rfl, unhide HB5⟩

end Go.Proofs.Qxb6000393aDoor
