/-
  FnEntityTagsRoundTrip, walked: it answers true whatever it is handed.
-/
import Derived.Test.Qxb6000766aDoorJoin
import Derived.Test.Qxb6000766aDoorSize
namespace Go.Proofs.Qxb6000766aDoor
open Go.RowKit

def TruePost (w : World) (e : Ending) (w' : World) : Prop := e = .returned (.bool true) ∧ Below w.heap.size w w'

theorem buf_str {B : Nat} {cur t : List UInt8} {v' : Value} {w' : World} (ho : w'.ownsRow B 5 1 v' (cur.length + (ByteArray.mk t.toArray).size) (BV cur ++ Lib.strCells ⟨t.toArray⟩)) : Buf B (cur ++ t) v' w' := by
  unfold Buf
  rw [BV_append, List.length_append]
  exact ho

theorem rem3 (x : Int) (h0 : 0 ≤ x) : ∃ r : Nat, x.tmod 3 = (r : Int) ∧ r ≤ 2 := by
  have h1 : 0 ≤ x.tmod 3 := Int.tmod_nonneg _ h0
  have h2 : x.tmod 3 < 3 := Int.tmod_lt_of_pos _ (by omega)
  exact ⟨(x.tmod 3).toNat, by omega, by omega⟩

/-- The main loop's relation. -/
def Rnd (wA : World) (star : Bool) (n k : Nat) (vv vc vt : Value) (Vals : List (List UInt8 × List (List UInt8))) (cur : List UInt8) (E tags : List (List UInt8)) (wr : World) : Prop :=
  k ≤ n ∧ tags.length ≤ k ∧ Vals.length ≤ k ∧ St wA vv vc vt Vals cur tags wr ∧ Pl star (1 + k * 1048590) Vals cur E tags

theorem Pl.tail' {star : Bool} {K : Nat} {Vals : List (List UInt8 × List (List UInt8))} {tags : List (List UInt8)} (h : Pl star K Vals [] [] tags) : Pl star K (Vals ++ [([32, 44, 32], [])]) [] [] tags := by
  obtain ⟨h1, h2, h3, h4, h5⟩ := h
  refine ⟨fun p hp => ?_, h2, ?_, h4, h5⟩
  · rcases List.mem_append.1 hp with hp | hp
    · exact h1 p hp
    · simp at hp; subst hp; exact ⟨rfl, by decide⟩
  · rw [List.map_append, List.flatten_append]
    simpa using h3
theorem Pl.tail {star : Bool} {K : Nat} {Vals : List (List UInt8 × List (List UInt8))} {E tags : List (List UInt8)} (h : Pl star K Vals [] E tags) : Pl star K (Vals ++ [([32, 44, 32], [])]) [] [] tags := by
  have hE := h.2.1.nilE rfl
  subst hE
  exact h.tail'

/-- The plain state at the end. -/
def PlE (star : Bool) (Vals : List (List UInt8 × List (List UInt8))) (tags : List (List UInt8)) : Prop := ∃ K, Pl star K Vals [] [] tags
theorem end_anyE (star : Bool) (Vals : List (List UInt8 × List (List UInt8))) (tags : List (List UInt8)) (vv : Value) (w : World) (B : Nat) (hP : PlE star Vals tags) (hl : Vals.length ≤ 1000000) (ht : tags.length ≤ 100000)
    (ho : w.ownsRow B 9 1 vv Vals.length (Vals.map fun p => S p.1)) : Calls Tryd.prog 13 #[vv] w (EndPost star tags w) := by
  obtain ⟨K, hK⟩ := hP
  exact end_any star K Vals tags vv w B hK hl ht ho

/-- The loop's end. -/
theorem Rnd.flushed {wA : World} {star : Bool} {n k : Nat} {vv vc vt vv' : Value} {Vals : List (List UInt8 × List (List UInt8))} {cur e : List UInt8} {E tags : List (List UInt8)} {wr w7 : World} {vc' vt' : Value} (h : Rnd wA star n k vv vc vt Vals cur E tags wr) (hk : k < n) (hn : n ≤ 65536)
    (ht : IsTag e) (hl : e.length ≤ 1048580) (hS : St wA vv' vc' vt' (Vals ++ [(cur, E)]) e (tags ++ [e]) w7) : Rnd wA star n (k + 1) vv' vc' vt' (Vals ++ [(cur, E)]) e [e] (tags ++ [e]) w7 := by
  obtain ⟨h1, h2, h3, _, h5⟩ := h
  exact ⟨hk, by simp; omega, by simp; omega, hS, (h5.flush (by omega)).first rfl ht (by omega)⟩
theorem Rnd.first {wA : World} {star : Bool} {n k : Nat} {vv vc vt : Value} {Vals : List (List UInt8 × List (List UInt8))} {e : List UInt8} {E tags : List (List UInt8)} {wr w7 : World} {vc' vt' : Value} (h : Rnd wA star n k vv vc vt Vals [] E tags wr) (hk : k < n)
    (ht : IsTag e) (hl : e.length ≤ 1048580) (hS : St wA vv vc' vt' Vals e (tags ++ [e]) w7) : Rnd wA star n (k + 1) vv vc' vt' Vals e [e] (tags ++ [e]) w7 := by
  obtain ⟨h1, h2, h3, _, h5⟩ := h
  exact ⟨hk, by simp; omega, by omega, hS, h5.first rfl ht (by omega)⟩
theorem Rnd.more {wA : World} {star : Bool} {n k : Nat} {vv vc vt : Value} {Vals : List (List UInt8 × List (List UInt8))} {cur s e : List UInt8} {E tags : List (List UInt8)} {wr w7 : World} {vc' vt' : Value} (h : Rnd wA star n k vv vc vt Vals cur E tags wr) (hk : k < n) (hc : 0 < cur.length) (hs : SepOK s)
    (ht : IsTag e) (hl : e.length ≤ 1048580) (hS : St wA vv vc' vt' Vals (cur ++ s ++ e) (tags ++ [e]) w7) : Rnd wA star n (k + 1) vv vc' vt' Vals (cur ++ s ++ e) (E ++ [e]) (tags ++ [e]) w7 := by
  obtain ⟨h1, h2, h3, _, h5⟩ := h
  exact ⟨hk, by simp; omega, by omega, hS, h5.more hc hs ht (by omega)⟩

set_option maxRecDepth 100000 in
set_option maxHeartbeats 40000000 in
theorem main_any (p p1 p2 p3 : Option Addr) (n n1 n2 n3 c c1 c2 c3 : Nat) (star : Bool) (F : Nat → List UInt8) (fw fv : Nat → Bool) (fs : Nat → Int) (w : World) (hn : n ≤ 9223372036854775807) (hn1 : n1 ≤ 9223372036854775807) (hn2 : n2 ≤ 9223372036854775807) (hn3 : n3 ≤ 9223372036854775807)
    (hp : SegV w p n (fun j => S (F j))) (hp1 : SegV w p1 n1 (fun j => .bool (fw j))) (hp2 : SegV w p2 n2 (fun j => .bool (fv j))) (hp3 : SegV w p3 n3 (fun j => .int .u8 (fs j))) (hfs : ∀ j, j < n3 → 0 ≤ fs j ∧ fs j ≤ 255)
    (z : p = none → n = 0 ∧ c = 0) (z1 : p1 = none → n1 = 0 ∧ c1 = 0) (z2 : p2 = none → n2 = 0 ∧ c2 = 0) (z3 : p3 = none → n3 = 0 ∧ c3 = 0) :
    Calls Tryd.prog 3 #[.slice p n c, .slice p1 n1 c1, .slice p2 n2 c2, .slice p3 n3 c3, .bool star] w (TruePost w) := by
  obtain ⟨i9, hi9, hz0, hz1, hz2⟩ := info_parts Tryd.info9
  obtain ⟨i5, hi5, hy0, hy1, hy2⟩ := info_parts Tryd.info5
  have HC := hide (bytes_any p p1 p2 p3 n n1 n2 n3 c c1 c2 c3 star F w hn hn1 hn2 hn3 hp)
  have gS := guard_S
  have cS := cells_S
  simp only [Value.cells] at cS
  have Hp := hide hp
  have Hp1 := hide hp1
  have Hp2 := hide hp2
  have Hp3 := hide hp3
  have Hfs := hide hfs
  have Hz := hide z
  have Hz1 := hide z1
  have Hz2 := hide z2
  have Hz3 := hide z3
  clear hp hp1 hp2 hp3 hfs z z1 z2 z3
  go_enter Tryd.func3, Tryd.ntmps3
  go_wp2_with fail
  refine (unhide HC).mono ?_
  rintro e0 w0 ⟨r, rfl, hw, hr⟩
  rw [hw]
  clear HC hw w0
  cases r with
  | false =>
    clear hr
    go_wp2
    go_ret
    exact ⟨rfl, Below.refl _ _⟩
  | true =>
    have Hr := hide (hr rfl)
    clear hr hn hn1 hn2 hn3
    obtain ⟨hn, hn1, hn2, hn3, _⟩ := unhide Hr
    by_cases b0 : n ≤ 65536
    · by_cases b1 : n1 ≤ 65536
      · by_cases b2 : n2 ≤ 65536
        · by_cases b3 : n3 ≤ 65536
          · clear hn hn1 hn2 hn3
            have HN := hide (size_any p n c F w (by omega) (unhide Hp))
            go_wp2_with fail
            refine (unhide HN).mono ?_
            rintro e0 w0 ⟨N, rfl, hN, hw⟩
            rw [hw]
            clear HN hw w0
            by_cases b4 : N + n1 + n2 + n3 ≤ 1048576
            · have HC0 := hide (cloneS_any p n c _ w (by omega) (unhide Hp) (fun _ _ => rfl) (unhide Hz))
              go_wp2_with fail
              refine (unhide HC0).mono ?_
              rintro e0 wa ⟨q, rfl, hq, hBa⟩
              have HC1 := hide (cloneB_any p1 n1 c1 _ wa (by omega) ((unhide Hp1).below hBa) (fun _ _ => rfl) (unhide Hz1))
              clear HC0
              go_wp2_with fail
              refine (unhide HC1).mono ?_
              rintro e0 wb ⟨q1, rfl, hq1, hBb⟩
              have hBab : Below w.heap.size w wb := hBa.trans (hBb.mono hBa.size)
              have HC2 := hide (cloneB_any p2 n2 c2 _ wb (by omega) ((unhide Hp2).below hBab) (fun _ _ => rfl) (unhide Hz2))
              clear HC1
              go_wp2_with fail
              refine (unhide HC2).mono ?_
              rintro e0 wc ⟨q2, rfl, hq2, hBc⟩
              have hBac : Below w.heap.size w wc := hBab.trans (hBc.mono hBab.size)
              have HC3 := hide (cloneY_any p3 n3 c3 _ wc (by omega) ((unhide Hp3).below hBac) (fun _ _ => rfl) (unhide Hz3))
              clear HC2
              go_wp2_with fail
              refine (unhide HC3).mono ?_
              rintro e0 wA ⟨q3, rfl, hq3, hBd⟩
              have HBA : Hid (Below w.heap.size w wA) := hBac.trans (hBd.mono hBac.size)
              have HQ3 := hide hq3
              have HQ2 := hide (hq2.below hBd)
              have HQ1 := hide ((hq1.below hBc).below hBd)
              have HQ := hide (((hq.below hBb).below hBc).below hBd)
              have HFl := hide (unhide Hr).2.2.2.2
              clear HC3 hq hq1 hq2 hq3 hBa hBb hBc hBd hBab hBac Hp Hp1 Hp2 Hp3 Hz Hz1 Hz2 Hz3 Hr
              cases star with
              | false =>
                have HR0 : Hid (Rnd wA false n 0 (.slice none 0 0) (.slice none 0 0) (.slice none 0 0) [] [] [] [] wA) := ⟨Nat.zero_le _, Nat.le_refl _, Nat.le_refl _, St.start wA, fun p hp => absurd hp (by simp), .inl ⟨rfl, rfl⟩, rfl, fun t ht => absurd ht (by simp), Nat.zero_le _⟩
                go_wp2
                go_loopw [11, 12, 13, 14] (fun a b d i wr => ∃ (k : Nat) (vv vc vt : Value) (Vals : List (List UInt8 × List (List UInt8))) (cur : List UInt8) (E tags : List (List UInt8)), vv = a ∧ vc = b ∧ vt = d ∧ i = .int .i64 (k : Int) ∧ Rnd wA false n k vv vc vt Vals cur E tags wr) (fun _ _ _ i _ => n - (intOf i).toNat)
                case atStart => exact ⟨0, _, _, _, _, _, _, _, rfl, rfl, rfl, rfl, unhide HR0⟩
                case round =>
                  obtain ⟨k, vv, vc, vt, Vals, cur, E, tags, rfl, rfl, rfl, rfl, hR⟩ := hrel
                  clear HR0
                  obtain ⟨hk, htg, hvl, hSt, hPl⟩ := hR
                  obtain ⟨pc, cc, rfl, _⟩ := row_form hSt.2.1
                  have hcl := hPl.2.2.2.2
                  have HR := hide (show Rnd wA false n k vv (.slice pc cur.length cc) vt Vals cur E tags wr from ⟨hk, htg, hvl, hSt, hPl⟩)
                  have hszr := hSt.2.2.2.2.size
                  clear hSt hPl
                  by_cases hlt : k < n
                  · obtain ⟨b, o, rfl, hcs⟩ := unhide HQ (by omega)
                    have hck := ((unhide HR).2.2.2.1.2.2.2.2.cell (p := ⟨b, o + k, none⟩) (World.block_lt_of_cell? _ _ (hcs k hlt))).trans (hcs k hlt)
                    have hFk := unhide HFl k hlt
                    clear hcs
                    by_cases hk1 : k < n1
                    · obtain ⟨b1, o1, rfl, hc1⟩ := unhide HQ1 (by omega)
                      have hv1 := ((unhide HR).2.2.2.1.2.2.2.2.cell (p := ⟨b1, o1 + k, none⟩) (World.block_lt_of_cell? _ _ (hc1 k hk1))).trans (hc1 k hk1)
                      obtain ⟨bw, hbw⟩ : ∃ bw, fw k = bw := ⟨_, rfl⟩
                      dsimp only at hv1
                      rw [hbw] at hv1
                      clear hc1 hbw
                      have HT := hide (build_any (F k) bw wr hFk)
                      go_wp2_with fail
                      refine (unhide HT).mono ?_
                      rintro e0 w2 ⟨t, rfl, ht, htl0, hB2⟩
                      have htl : t.length ≤ 1048580 := by omega
                      have Ht := hide ht
                      have HS2 := hide ((unhide HR).2.2.2.1.below hB2)
                      have hsz2 := (unhide HS2).2.2.2.2.size
                      clear HT ht hB2
                      by_cases hk2 : k < n2
                      · obtain ⟨b2, o2, rfl, hc2⟩ := unhide HQ2 (by omega)
                        have hb2 := World.block_lt_of_cell? _ _ (hc2 k hk2)
                        have hv2 := hc2 k hk2
                        clear hc2
                        cases hnv : fv k with
                        | true =>
                          dsimp only at hv2
                          rw [hnv] at hv2
                          clear hnv
                          rcases Nat.eq_zero_or_pos cur.length with hc0 | hcp
                          · obtain rfl : cur = [] := List.eq_nil_of_length_eq_zero hc0
                            clear hc0
                            go_wp2_with (at_builtin; first | (refine wpList_append_lies _ rfl (.tmp 91) (.tmp 93) 22 rfl wA.heap.size 9 i9 (.string ⟨#[]⟩) 1 16 Tryd.underlying22 hi9 hz0 hz1 hz2 rfl (by decide) vt tags.length (tags.map S) rfl ((unhide HS2).2.2.1.alloc _) ⟨w2.heap.size, 0, none⟩ 1 1 [S t] rfl rfl (by exact cells_new _ [S t] _ _ rfl) (fun u hu => by simp at hu; subst hu; rfl) (by decide) (by unfold maxLen; omega) (by omega) (by simp; omega) _ rfl ?_; intro g4 cap4 w5 ho5 hg5 hgg5 hlt5; have HS5 := hide ((unhide HS2).tag ho5 hg5 hgg5); have hsz5 := (unhide HS5).2.2.2.2.size; have hv5 := ((unhide HS5).2.2.2.2.cell (p := ⟨b2, o2 + k, none⟩) hb2).trans hv2; clear ho5 hg5 hgg5 hlt5) | (refine Lib.wpList_append_own_string _ rfl (.tmp 131) (.tmp 132) 24 9 rfl wA.heap.size 5 i5 Tryd.underlying24 Tryd.underlying9 hi5 hy0 hy1 hy2 _ ([]).length (BV ([])) rfl (unhide HS5).2.1 ⟨t.toArray⟩ rfl (by rw [size_S]; simp only [List.length_nil]; unfold maxLen; omega) (by rw [size_S]; simp only [List.length_nil]; omega) (by omega) ?_; intro v7 w7 ho7 hg7 hx7; have HS7 := hide ((unhide HS5).cur (buf_str ho7) hg7); clear ho7 hg7 hx7))
                            have HR7 := hide ((unhide HR).first hlt (unhide Ht) htl (unhide HS7))
                            clear HR HS2
                            go_roundw
                            case rel => exact ⟨k + 1, _, _, _, _, _, _, _, rfl, rfl, rfl, by go_num, unhide HR7⟩
                            case measure => simp [intOf]; omega
                          · go_wp2_with (at_builtin; first | (refine wpList_append_lies _ rfl (.tmp 91) (.tmp 93) 22 rfl wA.heap.size 9 i9 (.string ⟨#[]⟩) 1 16 Tryd.underlying22 hi9 hz0 hz1 hz2 rfl (by decide) vt tags.length (tags.map S) rfl ((unhide HS2).2.2.1.alloc _) ⟨w2.heap.size, 0, none⟩ 1 1 [S t] rfl rfl (by exact cells_new _ [S t] _ _ rfl) (fun u hu => by simp at hu; subst hu; rfl) (by decide) (by unfold maxLen; omega) (by omega) (by simp; omega) _ rfl ?_; intro g4 cap4 w5 ho5 hg5 hgg5 hlt5; have HS5 := hide ((unhide HS2).tag ho5 hg5 hgg5); have hsz5 := (unhide HS5).2.2.2.2.size; have hv5 := ((unhide HS5).2.2.2.2.cell (p := ⟨b2, o2 + k, none⟩) hb2).trans hv2; have hcv := conv_S (unhide HS5).2.1; clear ho5 hg5 hgg5 hlt5) | (refine wpList_append_lies _ rfl (.tmp 110) (.tmp 113) 22 rfl wA.heap.size 9 i9 (.string ⟨#[]⟩) 1 16 Tryd.underlying22 hi9 hz0 hz1 hz2 rfl (by decide) vv Vals.length (Vals.map fun p => S p.1) rfl ((unhide HS5).1.alloc _) ⟨w5.heap.size, 0, none⟩ 1 1 [S cur] rfl rfl (by exact cells_new _ [S cur] _ _ rfl) (fun u hu => by simp at hu; subst hu; rfl) (by decide) (by unfold maxLen; omega) (by omega) (by simp; omega) _ rfl ?_; intro g6 cap6 w6 ho6 hg6 hgg6 hlt6; have HS6 := hide ((unhide HS5).val (E := E) ho6 hg6 hgg6).nil; have hsz6 := (unhide HS6).2.2.2.2.size; clear ho6 hg6 hgg6 hlt6) | (refine Lib.wpList_append_own_string _ rfl (.tmp 131) (.tmp 132) 24 9 rfl wA.heap.size 5 i5 Tryd.underlying24 Tryd.underlying9 hi5 hy0 hy1 hy2 _ ([]).length (BV ([])) rfl (unhide HS6).2.1 ⟨t.toArray⟩ rfl (by rw [size_S]; simp only [List.length_nil]; unfold maxLen; omega) (by rw [size_S]; simp only [List.length_nil]; omega) (by omega) ?_; intro v7 w7 ho7 hg7 hx7; have HS7 := hide ((unhide HS6).cur (buf_str ho7) hg7); clear ho7 hg7 hx7))
                            have HR7 := hide ((unhide HR).flushed hlt b0 (unhide Ht) htl (unhide HS7))
                            clear HR HS2
                            go_roundw
                            case rel => exact ⟨k + 1, _, _, _, _, _, _, _, rfl, rfl, rfl, by go_num, unhide HR7⟩
                            case measure => simp [intOf]; omega
                        | false =>
                          dsimp only at hv2
                          rw [hnv] at hv2
                          clear hnv
                          rcases Nat.eq_zero_or_pos cur.length with hc0 | hcp
                          · obtain rfl : cur = [] := List.eq_nil_of_length_eq_zero hc0
                            clear hc0
                            go_wp2_with (at_builtin; first | (refine wpList_append_lies _ rfl (.tmp 91) (.tmp 93) 22 rfl wA.heap.size 9 i9 (.string ⟨#[]⟩) 1 16 Tryd.underlying22 hi9 hz0 hz1 hz2 rfl (by decide) vt tags.length (tags.map S) rfl ((unhide HS2).2.2.1.alloc _) ⟨w2.heap.size, 0, none⟩ 1 1 [S t] rfl rfl (by exact cells_new _ [S t] _ _ rfl) (fun u hu => by simp at hu; subst hu; rfl) (by decide) (by unfold maxLen; omega) (by omega) (by simp; omega) _ rfl ?_; intro g4 cap4 w5 ho5 hg5 hgg5 hlt5; have HS5 := hide ((unhide HS2).tag ho5 hg5 hgg5); have hsz5 := (unhide HS5).2.2.2.2.size; have hv5 := ((unhide HS5).2.2.2.2.cell (p := ⟨b2, o2 + k, none⟩) hb2).trans hv2; clear ho5 hg5 hgg5 hlt5) | (refine Lib.wpList_append_own_string _ rfl (.tmp 131) (.tmp 132) 24 9 rfl wA.heap.size 5 i5 Tryd.underlying24 Tryd.underlying9 hi5 hy0 hy1 hy2 _ ([]).length (BV ([])) rfl (unhide HS5).2.1 ⟨t.toArray⟩ rfl (by rw [size_S]; simp only [List.length_nil]; unfold maxLen; omega) (by rw [size_S]; simp only [List.length_nil]; omega) (by omega) ?_; intro v7 w7 ho7 hg7 hx7; have HS7 := hide ((unhide HS5).cur (buf_str ho7) hg7); clear ho7 hg7 hx7))
                            have HR7 := hide ((unhide HR).first hlt (unhide Ht) htl (unhide HS7))
                            clear HR HS2
                            go_roundw
                            case rel => exact ⟨k + 1, _, _, _, _, _, _, _, rfl, rfl, rfl, by go_num, unhide HR7⟩
                            case measure => simp [intOf]; omega
                          · by_cases hk3 : k < n3
                            · obtain ⟨b3, o3, rfl, hc3⟩ := unhide HQ3 (by omega)
                              have hb3 := World.block_lt_of_cell? _ _ (hc3 k hk3)
                              have hv3 := hc3 k hk3
                              obtain ⟨x, hx⟩ : ∃ x, fs k = x := ⟨_, rfl⟩
                              have hx0 := (unhide Hfs k hk3).1
                              have hx1 := (unhide Hfs k hk3).2
                              dsimp only at hv3
                              rw [hx] at hv3 hx0 hx1
                              obtain ⟨r, hr, hr2⟩ := rem3 x hx0
                              clear hc3 hx hx0 hx1
                              go_wp2_with (at_builtin; first | (refine wpList_append_lies _ rfl (.tmp 91) (.tmp 93) 22 rfl wA.heap.size 9 i9 (.string ⟨#[]⟩) 1 16 Tryd.underlying22 hi9 hz0 hz1 hz2 rfl (by decide) vt tags.length (tags.map S) rfl ((unhide HS2).2.2.1.alloc _) ⟨w2.heap.size, 0, none⟩ 1 1 [S t] rfl rfl (by exact cells_new _ [S t] _ _ rfl) (fun u hu => by simp at hu; subst hu; rfl) (by decide) (by unfold maxLen; omega) (by omega) (by simp; omega) _ rfl ?_; intro g4 cap4 w5 ho5 hg5 hgg5 hlt5; have HS5 := hide ((unhide HS2).tag ho5 hg5 hgg5); have hsz5 := (unhide HS5).2.2.2.2.size; have hv5 := ((unhide HS5).2.2.2.2.cell (p := ⟨b2, o2 + k, none⟩) hb2).trans hv2; have hs5 := ((unhide HS5).2.2.2.2.cell (p := ⟨b3, o3 + k, none⟩) hb3).trans hv3; clear ho5 hg5 hgg5 hlt5))
                              refine (sep_any wA.heap.size r cur (.slice pc cur.length cc) w5 (by omega) (by omega) hsz5 (unhide HS5).2.1).mono ?_
                              rintro e0 w6 ⟨vs, sp, rfl, hsp, hbuf6, hg6⟩
                              have HS6 := hide ((unhide HS5).cur hbuf6 hg6)
                              have hsz6 := (unhide HS6).2.2.2.2.size
                              have hspl := sep_len hsp
                              have Hsp := hide hsp
                              clear hbuf6 hg6 hsp
                              go_wp2_with (at_builtin; (refine Lib.wpList_append_own_string _ rfl (.tmp 131) (.tmp 132) 24 9 rfl wA.heap.size 5 i5 Tryd.underlying24 Tryd.underlying9 hi5 hy0 hy1 hy2 _ (cur ++ sp).length (BV (cur ++ sp)) rfl (unhide HS6).2.1 ⟨t.toArray⟩ rfl (by rw [size_S]; simp only [List.length_append]; unfold maxLen; omega) (by rw [size_S]; simp only [List.length_append]; omega) (by omega) ?_; intro v7 w7 ho7 hg7 hx7; have HS7 := hide ((unhide HS6).cur (buf_str ho7) hg7); clear ho7 hg7 hx7))
                              have HR7 := hide ((unhide HR).more hlt hcp (unhide Hsp) (unhide Ht) htl (unhide HS7))
                              clear HR HS2
                              go_roundw
                              case rel => exact ⟨k + 1, _, _, _, _, _, _, _, rfl, rfl, rfl, by go_num, unhide HR7⟩
                              case measure => simp [intOf]; omega
                            · go_wp2_with (at_builtin; first | (refine wpList_append_lies _ rfl (.tmp 91) (.tmp 93) 22 rfl wA.heap.size 9 i9 (.string ⟨#[]⟩) 1 16 Tryd.underlying22 hi9 hz0 hz1 hz2 rfl (by decide) vt tags.length (tags.map S) rfl ((unhide HS2).2.2.1.alloc _) ⟨w2.heap.size, 0, none⟩ 1 1 [S t] rfl rfl (by exact cells_new _ [S t] _ _ rfl) (fun u hu => by simp at hu; subst hu; rfl) (by decide) (by unfold maxLen; omega) (by omega) (by simp; omega) _ rfl ?_; intro g4 cap4 w5 ho5 hg5 hgg5 hlt5; have HS5 := hide ((unhide HS2).tag ho5 hg5 hgg5); have hsz5 := (unhide HS5).2.2.2.2.size; have hv5 := ((unhide HS5).2.2.2.2.cell (p := ⟨b2, o2 + k, none⟩) hb2).trans hv2; clear ho5 hg5 hgg5 hlt5))
                              refine (sep_any wA.heap.size 0 cur (.slice pc cur.length cc) w5 (by omega) (by omega) hsz5 (unhide HS5).2.1).mono ?_
                              rintro e0 w6 ⟨vs, sp, rfl, hsp, hbuf6, hg6⟩
                              have HS6 := hide ((unhide HS5).cur hbuf6 hg6)
                              have hsz6 := (unhide HS6).2.2.2.2.size
                              have hspl := sep_len hsp
                              have Hsp := hide hsp
                              clear hbuf6 hg6 hsp
                              go_wp2_with (at_builtin; (refine Lib.wpList_append_own_string _ rfl (.tmp 131) (.tmp 132) 24 9 rfl wA.heap.size 5 i5 Tryd.underlying24 Tryd.underlying9 hi5 hy0 hy1 hy2 _ (cur ++ sp).length (BV (cur ++ sp)) rfl (unhide HS6).2.1 ⟨t.toArray⟩ rfl (by rw [size_S]; simp only [List.length_append]; unfold maxLen; omega) (by rw [size_S]; simp only [List.length_append]; omega) (by omega) ?_; intro v7 w7 ho7 hg7 hx7; have HS7 := hide ((unhide HS6).cur (buf_str ho7) hg7); clear ho7 hg7 hx7))
                              have HR7 := hide ((unhide HR).more hlt hcp (unhide Hsp) (unhide Ht) htl (unhide HS7))
                              clear HR HS2
                              go_roundw
                              case rel => exact ⟨k + 1, _, _, _, _, _, _, _, rfl, rfl, rfl, by go_num, unhide HR7⟩
                              case measure => simp [intOf]; omega
                      · rcases Nat.eq_zero_or_pos cur.length with hc0 | hcp
                        · obtain rfl : cur = [] := List.eq_nil_of_length_eq_zero hc0
                          clear hc0
                          go_wp2_with (at_builtin; first | (refine wpList_append_lies _ rfl (.tmp 91) (.tmp 93) 22 rfl wA.heap.size 9 i9 (.string ⟨#[]⟩) 1 16 Tryd.underlying22 hi9 hz0 hz1 hz2 rfl (by decide) vt tags.length (tags.map S) rfl ((unhide HS2).2.2.1.alloc _) ⟨w2.heap.size, 0, none⟩ 1 1 [S t] rfl rfl (by exact cells_new _ [S t] _ _ rfl) (fun u hu => by simp at hu; subst hu; rfl) (by decide) (by unfold maxLen; omega) (by omega) (by simp; omega) _ rfl ?_; intro g4 cap4 w5 ho5 hg5 hgg5 hlt5; have HS5 := hide ((unhide HS2).tag ho5 hg5 hgg5); have hsz5 := (unhide HS5).2.2.2.2.size; clear ho5 hg5 hgg5 hlt5) | (refine Lib.wpList_append_own_string _ rfl (.tmp 131) (.tmp 132) 24 9 rfl wA.heap.size 5 i5 Tryd.underlying24 Tryd.underlying9 hi5 hy0 hy1 hy2 _ ([]).length (BV ([])) rfl (unhide HS5).2.1 ⟨t.toArray⟩ rfl (by rw [size_S]; simp only [List.length_nil]; unfold maxLen; omega) (by rw [size_S]; simp only [List.length_nil]; omega) (by omega) ?_; intro v7 w7 ho7 hg7 hx7; have HS7 := hide ((unhide HS5).cur (buf_str ho7) hg7); clear ho7 hg7 hx7))
                          have HR7 := hide ((unhide HR).first hlt (unhide Ht) htl (unhide HS7))
                          clear HR HS2
                          go_roundw
                          case rel => exact ⟨k + 1, _, _, _, _, _, _, _, rfl, rfl, rfl, by go_num, unhide HR7⟩
                          case measure => simp [intOf]; omega
                        · by_cases hk3 : k < n3
                          · obtain ⟨b3, o3, rfl, hc3⟩ := unhide HQ3 (by omega)
                            have hb3 := World.block_lt_of_cell? _ _ (hc3 k hk3)
                            have hv3 := hc3 k hk3
                            obtain ⟨x, hx⟩ : ∃ x, fs k = x := ⟨_, rfl⟩
                            have hx0 := (unhide Hfs k hk3).1
                            have hx1 := (unhide Hfs k hk3).2
                            dsimp only at hv3
                            rw [hx] at hv3 hx0 hx1
                            obtain ⟨r, hr, hr2⟩ := rem3 x hx0
                            clear hc3 hx hx0 hx1
                            go_wp2_with (at_builtin; first | (refine wpList_append_lies _ rfl (.tmp 91) (.tmp 93) 22 rfl wA.heap.size 9 i9 (.string ⟨#[]⟩) 1 16 Tryd.underlying22 hi9 hz0 hz1 hz2 rfl (by decide) vt tags.length (tags.map S) rfl ((unhide HS2).2.2.1.alloc _) ⟨w2.heap.size, 0, none⟩ 1 1 [S t] rfl rfl (by exact cells_new _ [S t] _ _ rfl) (fun u hu => by simp at hu; subst hu; rfl) (by decide) (by unfold maxLen; omega) (by omega) (by simp; omega) _ rfl ?_; intro g4 cap4 w5 ho5 hg5 hgg5 hlt5; have HS5 := hide ((unhide HS2).tag ho5 hg5 hgg5); have hsz5 := (unhide HS5).2.2.2.2.size; have hs5 := ((unhide HS5).2.2.2.2.cell (p := ⟨b3, o3 + k, none⟩) hb3).trans hv3; clear ho5 hg5 hgg5 hlt5))
                            refine (sep_any wA.heap.size r cur (.slice pc cur.length cc) w5 (by omega) (by omega) hsz5 (unhide HS5).2.1).mono ?_
                            rintro e0 w6 ⟨vs, sp, rfl, hsp, hbuf6, hg6⟩
                            have HS6 := hide ((unhide HS5).cur hbuf6 hg6)
                            have hsz6 := (unhide HS6).2.2.2.2.size
                            have hspl := sep_len hsp
                            have Hsp := hide hsp
                            clear hbuf6 hg6 hsp
                            go_wp2_with (at_builtin; (refine Lib.wpList_append_own_string _ rfl (.tmp 131) (.tmp 132) 24 9 rfl wA.heap.size 5 i5 Tryd.underlying24 Tryd.underlying9 hi5 hy0 hy1 hy2 _ (cur ++ sp).length (BV (cur ++ sp)) rfl (unhide HS6).2.1 ⟨t.toArray⟩ rfl (by rw [size_S]; simp only [List.length_append]; unfold maxLen; omega) (by rw [size_S]; simp only [List.length_append]; omega) (by omega) ?_; intro v7 w7 ho7 hg7 hx7; have HS7 := hide ((unhide HS6).cur (buf_str ho7) hg7); clear ho7 hg7 hx7))
                            have HR7 := hide ((unhide HR).more hlt hcp (unhide Hsp) (unhide Ht) htl (unhide HS7))
                            clear HR HS2
                            go_roundw
                            case rel => exact ⟨k + 1, _, _, _, _, _, _, _, rfl, rfl, rfl, by go_num, unhide HR7⟩
                            case measure => simp [intOf]; omega
                          · go_wp2_with (at_builtin; first | (refine wpList_append_lies _ rfl (.tmp 91) (.tmp 93) 22 rfl wA.heap.size 9 i9 (.string ⟨#[]⟩) 1 16 Tryd.underlying22 hi9 hz0 hz1 hz2 rfl (by decide) vt tags.length (tags.map S) rfl ((unhide HS2).2.2.1.alloc _) ⟨w2.heap.size, 0, none⟩ 1 1 [S t] rfl rfl (by exact cells_new _ [S t] _ _ rfl) (fun u hu => by simp at hu; subst hu; rfl) (by decide) (by unfold maxLen; omega) (by omega) (by simp; omega) _ rfl ?_; intro g4 cap4 w5 ho5 hg5 hgg5 hlt5; have HS5 := hide ((unhide HS2).tag ho5 hg5 hgg5); have hsz5 := (unhide HS5).2.2.2.2.size; clear ho5 hg5 hgg5 hlt5))
                            refine (sep_any wA.heap.size 0 cur (.slice pc cur.length cc) w5 (by omega) (by omega) hsz5 (unhide HS5).2.1).mono ?_
                            rintro e0 w6 ⟨vs, sp, rfl, hsp, hbuf6, hg6⟩
                            have HS6 := hide ((unhide HS5).cur hbuf6 hg6)
                            have hsz6 := (unhide HS6).2.2.2.2.size
                            have hspl := sep_len hsp
                            have Hsp := hide hsp
                            clear hbuf6 hg6 hsp
                            go_wp2_with (at_builtin; (refine Lib.wpList_append_own_string _ rfl (.tmp 131) (.tmp 132) 24 9 rfl wA.heap.size 5 i5 Tryd.underlying24 Tryd.underlying9 hi5 hy0 hy1 hy2 _ (cur ++ sp).length (BV (cur ++ sp)) rfl (unhide HS6).2.1 ⟨t.toArray⟩ rfl (by rw [size_S]; simp only [List.length_append]; unfold maxLen; omega) (by rw [size_S]; simp only [List.length_append]; omega) (by omega) ?_; intro v7 w7 ho7 hg7 hx7; have HS7 := hide ((unhide HS6).cur (buf_str ho7) hg7); clear ho7 hg7 hx7))
                            have HR7 := hide ((unhide HR).more hlt hcp (unhide Hsp) (unhide Ht) htl (unhide HS7))
                            clear HR HS2
                            go_roundw
                            case rel => exact ⟨k + 1, _, _, _, _, _, _, _, rfl, rfl, rfl, by go_num, unhide HR7⟩
                            case measure => simp [intOf]; omega
                    · have HT := hide (build_any (F k) false wr hFk)
                      go_wp2_with fail
                      refine (unhide HT).mono ?_
                      rintro e0 w2 ⟨t, rfl, ht, htl0, hB2⟩
                      have htl : t.length ≤ 1048580 := by omega
                      have Ht := hide ht
                      have HS2 := hide ((unhide HR).2.2.2.1.below hB2)
                      have hsz2 := (unhide HS2).2.2.2.2.size
                      clear HT ht hB2
                      by_cases hk2 : k < n2
                      · obtain ⟨b2, o2, rfl, hc2⟩ := unhide HQ2 (by omega)
                        have hb2 := World.block_lt_of_cell? _ _ (hc2 k hk2)
                        have hv2 := hc2 k hk2
                        clear hc2
                        cases hnv : fv k with
                        | true =>
                          dsimp only at hv2
                          rw [hnv] at hv2
                          clear hnv
                          rcases Nat.eq_zero_or_pos cur.length with hc0 | hcp
                          · obtain rfl : cur = [] := List.eq_nil_of_length_eq_zero hc0
                            clear hc0
                            go_wp2_with (at_builtin; first | (refine wpList_append_lies _ rfl (.tmp 91) (.tmp 93) 22 rfl wA.heap.size 9 i9 (.string ⟨#[]⟩) 1 16 Tryd.underlying22 hi9 hz0 hz1 hz2 rfl (by decide) vt tags.length (tags.map S) rfl ((unhide HS2).2.2.1.alloc _) ⟨w2.heap.size, 0, none⟩ 1 1 [S t] rfl rfl (by exact cells_new _ [S t] _ _ rfl) (fun u hu => by simp at hu; subst hu; rfl) (by decide) (by unfold maxLen; omega) (by omega) (by simp; omega) _ rfl ?_; intro g4 cap4 w5 ho5 hg5 hgg5 hlt5; have HS5 := hide ((unhide HS2).tag ho5 hg5 hgg5); have hsz5 := (unhide HS5).2.2.2.2.size; have hv5 := ((unhide HS5).2.2.2.2.cell (p := ⟨b2, o2 + k, none⟩) hb2).trans hv2; clear ho5 hg5 hgg5 hlt5) | (refine Lib.wpList_append_own_string _ rfl (.tmp 131) (.tmp 132) 24 9 rfl wA.heap.size 5 i5 Tryd.underlying24 Tryd.underlying9 hi5 hy0 hy1 hy2 _ ([]).length (BV ([])) rfl (unhide HS5).2.1 ⟨t.toArray⟩ rfl (by rw [size_S]; simp only [List.length_nil]; unfold maxLen; omega) (by rw [size_S]; simp only [List.length_nil]; omega) (by omega) ?_; intro v7 w7 ho7 hg7 hx7; have HS7 := hide ((unhide HS5).cur (buf_str ho7) hg7); clear ho7 hg7 hx7))
                            have HR7 := hide ((unhide HR).first hlt (unhide Ht) htl (unhide HS7))
                            clear HR HS2
                            go_roundw
                            case rel => exact ⟨k + 1, _, _, _, _, _, _, _, rfl, rfl, rfl, by go_num, unhide HR7⟩
                            case measure => simp [intOf]; omega
                          · go_wp2_with (at_builtin; first | (refine wpList_append_lies _ rfl (.tmp 91) (.tmp 93) 22 rfl wA.heap.size 9 i9 (.string ⟨#[]⟩) 1 16 Tryd.underlying22 hi9 hz0 hz1 hz2 rfl (by decide) vt tags.length (tags.map S) rfl ((unhide HS2).2.2.1.alloc _) ⟨w2.heap.size, 0, none⟩ 1 1 [S t] rfl rfl (by exact cells_new _ [S t] _ _ rfl) (fun u hu => by simp at hu; subst hu; rfl) (by decide) (by unfold maxLen; omega) (by omega) (by simp; omega) _ rfl ?_; intro g4 cap4 w5 ho5 hg5 hgg5 hlt5; have HS5 := hide ((unhide HS2).tag ho5 hg5 hgg5); have hsz5 := (unhide HS5).2.2.2.2.size; have hv5 := ((unhide HS5).2.2.2.2.cell (p := ⟨b2, o2 + k, none⟩) hb2).trans hv2; have hcv := conv_S (unhide HS5).2.1; clear ho5 hg5 hgg5 hlt5) | (refine wpList_append_lies _ rfl (.tmp 110) (.tmp 113) 22 rfl wA.heap.size 9 i9 (.string ⟨#[]⟩) 1 16 Tryd.underlying22 hi9 hz0 hz1 hz2 rfl (by decide) vv Vals.length (Vals.map fun p => S p.1) rfl ((unhide HS5).1.alloc _) ⟨w5.heap.size, 0, none⟩ 1 1 [S cur] rfl rfl (by exact cells_new _ [S cur] _ _ rfl) (fun u hu => by simp at hu; subst hu; rfl) (by decide) (by unfold maxLen; omega) (by omega) (by simp; omega) _ rfl ?_; intro g6 cap6 w6 ho6 hg6 hgg6 hlt6; have HS6 := hide ((unhide HS5).val (E := E) ho6 hg6 hgg6).nil; have hsz6 := (unhide HS6).2.2.2.2.size; clear ho6 hg6 hgg6 hlt6) | (refine Lib.wpList_append_own_string _ rfl (.tmp 131) (.tmp 132) 24 9 rfl wA.heap.size 5 i5 Tryd.underlying24 Tryd.underlying9 hi5 hy0 hy1 hy2 _ ([]).length (BV ([])) rfl (unhide HS6).2.1 ⟨t.toArray⟩ rfl (by rw [size_S]; simp only [List.length_nil]; unfold maxLen; omega) (by rw [size_S]; simp only [List.length_nil]; omega) (by omega) ?_; intro v7 w7 ho7 hg7 hx7; have HS7 := hide ((unhide HS6).cur (buf_str ho7) hg7); clear ho7 hg7 hx7))
                            have HR7 := hide ((unhide HR).flushed hlt b0 (unhide Ht) htl (unhide HS7))
                            clear HR HS2
                            go_roundw
                            case rel => exact ⟨k + 1, _, _, _, _, _, _, _, rfl, rfl, rfl, by go_num, unhide HR7⟩
                            case measure => simp [intOf]; omega
                        | false =>
                          dsimp only at hv2
                          rw [hnv] at hv2
                          clear hnv
                          rcases Nat.eq_zero_or_pos cur.length with hc0 | hcp
                          · obtain rfl : cur = [] := List.eq_nil_of_length_eq_zero hc0
                            clear hc0
                            go_wp2_with (at_builtin; first | (refine wpList_append_lies _ rfl (.tmp 91) (.tmp 93) 22 rfl wA.heap.size 9 i9 (.string ⟨#[]⟩) 1 16 Tryd.underlying22 hi9 hz0 hz1 hz2 rfl (by decide) vt tags.length (tags.map S) rfl ((unhide HS2).2.2.1.alloc _) ⟨w2.heap.size, 0, none⟩ 1 1 [S t] rfl rfl (by exact cells_new _ [S t] _ _ rfl) (fun u hu => by simp at hu; subst hu; rfl) (by decide) (by unfold maxLen; omega) (by omega) (by simp; omega) _ rfl ?_; intro g4 cap4 w5 ho5 hg5 hgg5 hlt5; have HS5 := hide ((unhide HS2).tag ho5 hg5 hgg5); have hsz5 := (unhide HS5).2.2.2.2.size; have hv5 := ((unhide HS5).2.2.2.2.cell (p := ⟨b2, o2 + k, none⟩) hb2).trans hv2; clear ho5 hg5 hgg5 hlt5) | (refine Lib.wpList_append_own_string _ rfl (.tmp 131) (.tmp 132) 24 9 rfl wA.heap.size 5 i5 Tryd.underlying24 Tryd.underlying9 hi5 hy0 hy1 hy2 _ ([]).length (BV ([])) rfl (unhide HS5).2.1 ⟨t.toArray⟩ rfl (by rw [size_S]; simp only [List.length_nil]; unfold maxLen; omega) (by rw [size_S]; simp only [List.length_nil]; omega) (by omega) ?_; intro v7 w7 ho7 hg7 hx7; have HS7 := hide ((unhide HS5).cur (buf_str ho7) hg7); clear ho7 hg7 hx7))
                            have HR7 := hide ((unhide HR).first hlt (unhide Ht) htl (unhide HS7))
                            clear HR HS2
                            go_roundw
                            case rel => exact ⟨k + 1, _, _, _, _, _, _, _, rfl, rfl, rfl, by go_num, unhide HR7⟩
                            case measure => simp [intOf]; omega
                          · by_cases hk3 : k < n3
                            · obtain ⟨b3, o3, rfl, hc3⟩ := unhide HQ3 (by omega)
                              have hb3 := World.block_lt_of_cell? _ _ (hc3 k hk3)
                              have hv3 := hc3 k hk3
                              obtain ⟨x, hx⟩ : ∃ x, fs k = x := ⟨_, rfl⟩
                              have hx0 := (unhide Hfs k hk3).1
                              have hx1 := (unhide Hfs k hk3).2
                              dsimp only at hv3
                              rw [hx] at hv3 hx0 hx1
                              obtain ⟨r, hr, hr2⟩ := rem3 x hx0
                              clear hc3 hx hx0 hx1
                              go_wp2_with (at_builtin; first | (refine wpList_append_lies _ rfl (.tmp 91) (.tmp 93) 22 rfl wA.heap.size 9 i9 (.string ⟨#[]⟩) 1 16 Tryd.underlying22 hi9 hz0 hz1 hz2 rfl (by decide) vt tags.length (tags.map S) rfl ((unhide HS2).2.2.1.alloc _) ⟨w2.heap.size, 0, none⟩ 1 1 [S t] rfl rfl (by exact cells_new _ [S t] _ _ rfl) (fun u hu => by simp at hu; subst hu; rfl) (by decide) (by unfold maxLen; omega) (by omega) (by simp; omega) _ rfl ?_; intro g4 cap4 w5 ho5 hg5 hgg5 hlt5; have HS5 := hide ((unhide HS2).tag ho5 hg5 hgg5); have hsz5 := (unhide HS5).2.2.2.2.size; have hv5 := ((unhide HS5).2.2.2.2.cell (p := ⟨b2, o2 + k, none⟩) hb2).trans hv2; have hs5 := ((unhide HS5).2.2.2.2.cell (p := ⟨b3, o3 + k, none⟩) hb3).trans hv3; clear ho5 hg5 hgg5 hlt5))
                              refine (sep_any wA.heap.size r cur (.slice pc cur.length cc) w5 (by omega) (by omega) hsz5 (unhide HS5).2.1).mono ?_
                              rintro e0 w6 ⟨vs, sp, rfl, hsp, hbuf6, hg6⟩
                              have HS6 := hide ((unhide HS5).cur hbuf6 hg6)
                              have hsz6 := (unhide HS6).2.2.2.2.size
                              have hspl := sep_len hsp
                              have Hsp := hide hsp
                              clear hbuf6 hg6 hsp
                              go_wp2_with (at_builtin; (refine Lib.wpList_append_own_string _ rfl (.tmp 131) (.tmp 132) 24 9 rfl wA.heap.size 5 i5 Tryd.underlying24 Tryd.underlying9 hi5 hy0 hy1 hy2 _ (cur ++ sp).length (BV (cur ++ sp)) rfl (unhide HS6).2.1 ⟨t.toArray⟩ rfl (by rw [size_S]; simp only [List.length_append]; unfold maxLen; omega) (by rw [size_S]; simp only [List.length_append]; omega) (by omega) ?_; intro v7 w7 ho7 hg7 hx7; have HS7 := hide ((unhide HS6).cur (buf_str ho7) hg7); clear ho7 hg7 hx7))
                              have HR7 := hide ((unhide HR).more hlt hcp (unhide Hsp) (unhide Ht) htl (unhide HS7))
                              clear HR HS2
                              go_roundw
                              case rel => exact ⟨k + 1, _, _, _, _, _, _, _, rfl, rfl, rfl, by go_num, unhide HR7⟩
                              case measure => simp [intOf]; omega
                            · go_wp2_with (at_builtin; first | (refine wpList_append_lies _ rfl (.tmp 91) (.tmp 93) 22 rfl wA.heap.size 9 i9 (.string ⟨#[]⟩) 1 16 Tryd.underlying22 hi9 hz0 hz1 hz2 rfl (by decide) vt tags.length (tags.map S) rfl ((unhide HS2).2.2.1.alloc _) ⟨w2.heap.size, 0, none⟩ 1 1 [S t] rfl rfl (by exact cells_new _ [S t] _ _ rfl) (fun u hu => by simp at hu; subst hu; rfl) (by decide) (by unfold maxLen; omega) (by omega) (by simp; omega) _ rfl ?_; intro g4 cap4 w5 ho5 hg5 hgg5 hlt5; have HS5 := hide ((unhide HS2).tag ho5 hg5 hgg5); have hsz5 := (unhide HS5).2.2.2.2.size; have hv5 := ((unhide HS5).2.2.2.2.cell (p := ⟨b2, o2 + k, none⟩) hb2).trans hv2; clear ho5 hg5 hgg5 hlt5))
                              refine (sep_any wA.heap.size 0 cur (.slice pc cur.length cc) w5 (by omega) (by omega) hsz5 (unhide HS5).2.1).mono ?_
                              rintro e0 w6 ⟨vs, sp, rfl, hsp, hbuf6, hg6⟩
                              have HS6 := hide ((unhide HS5).cur hbuf6 hg6)
                              have hsz6 := (unhide HS6).2.2.2.2.size
                              have hspl := sep_len hsp
                              have Hsp := hide hsp
                              clear hbuf6 hg6 hsp
                              go_wp2_with (at_builtin; (refine Lib.wpList_append_own_string _ rfl (.tmp 131) (.tmp 132) 24 9 rfl wA.heap.size 5 i5 Tryd.underlying24 Tryd.underlying9 hi5 hy0 hy1 hy2 _ (cur ++ sp).length (BV (cur ++ sp)) rfl (unhide HS6).2.1 ⟨t.toArray⟩ rfl (by rw [size_S]; simp only [List.length_append]; unfold maxLen; omega) (by rw [size_S]; simp only [List.length_append]; omega) (by omega) ?_; intro v7 w7 ho7 hg7 hx7; have HS7 := hide ((unhide HS6).cur (buf_str ho7) hg7); clear ho7 hg7 hx7))
                              have HR7 := hide ((unhide HR).more hlt hcp (unhide Hsp) (unhide Ht) htl (unhide HS7))
                              clear HR HS2
                              go_roundw
                              case rel => exact ⟨k + 1, _, _, _, _, _, _, _, rfl, rfl, rfl, by go_num, unhide HR7⟩
                              case measure => simp [intOf]; omega
                      · rcases Nat.eq_zero_or_pos cur.length with hc0 | hcp
                        · obtain rfl : cur = [] := List.eq_nil_of_length_eq_zero hc0
                          clear hc0
                          go_wp2_with (at_builtin; first | (refine wpList_append_lies _ rfl (.tmp 91) (.tmp 93) 22 rfl wA.heap.size 9 i9 (.string ⟨#[]⟩) 1 16 Tryd.underlying22 hi9 hz0 hz1 hz2 rfl (by decide) vt tags.length (tags.map S) rfl ((unhide HS2).2.2.1.alloc _) ⟨w2.heap.size, 0, none⟩ 1 1 [S t] rfl rfl (by exact cells_new _ [S t] _ _ rfl) (fun u hu => by simp at hu; subst hu; rfl) (by decide) (by unfold maxLen; omega) (by omega) (by simp; omega) _ rfl ?_; intro g4 cap4 w5 ho5 hg5 hgg5 hlt5; have HS5 := hide ((unhide HS2).tag ho5 hg5 hgg5); have hsz5 := (unhide HS5).2.2.2.2.size; clear ho5 hg5 hgg5 hlt5) | (refine Lib.wpList_append_own_string _ rfl (.tmp 131) (.tmp 132) 24 9 rfl wA.heap.size 5 i5 Tryd.underlying24 Tryd.underlying9 hi5 hy0 hy1 hy2 _ ([]).length (BV ([])) rfl (unhide HS5).2.1 ⟨t.toArray⟩ rfl (by rw [size_S]; simp only [List.length_nil]; unfold maxLen; omega) (by rw [size_S]; simp only [List.length_nil]; omega) (by omega) ?_; intro v7 w7 ho7 hg7 hx7; have HS7 := hide ((unhide HS5).cur (buf_str ho7) hg7); clear ho7 hg7 hx7))
                          have HR7 := hide ((unhide HR).first hlt (unhide Ht) htl (unhide HS7))
                          clear HR HS2
                          go_roundw
                          case rel => exact ⟨k + 1, _, _, _, _, _, _, _, rfl, rfl, rfl, by go_num, unhide HR7⟩
                          case measure => simp [intOf]; omega
                        · by_cases hk3 : k < n3
                          · obtain ⟨b3, o3, rfl, hc3⟩ := unhide HQ3 (by omega)
                            have hb3 := World.block_lt_of_cell? _ _ (hc3 k hk3)
                            have hv3 := hc3 k hk3
                            obtain ⟨x, hx⟩ : ∃ x, fs k = x := ⟨_, rfl⟩
                            have hx0 := (unhide Hfs k hk3).1
                            have hx1 := (unhide Hfs k hk3).2
                            dsimp only at hv3
                            rw [hx] at hv3 hx0 hx1
                            obtain ⟨r, hr, hr2⟩ := rem3 x hx0
                            clear hc3 hx hx0 hx1
                            go_wp2_with (at_builtin; first | (refine wpList_append_lies _ rfl (.tmp 91) (.tmp 93) 22 rfl wA.heap.size 9 i9 (.string ⟨#[]⟩) 1 16 Tryd.underlying22 hi9 hz0 hz1 hz2 rfl (by decide) vt tags.length (tags.map S) rfl ((unhide HS2).2.2.1.alloc _) ⟨w2.heap.size, 0, none⟩ 1 1 [S t] rfl rfl (by exact cells_new _ [S t] _ _ rfl) (fun u hu => by simp at hu; subst hu; rfl) (by decide) (by unfold maxLen; omega) (by omega) (by simp; omega) _ rfl ?_; intro g4 cap4 w5 ho5 hg5 hgg5 hlt5; have HS5 := hide ((unhide HS2).tag ho5 hg5 hgg5); have hsz5 := (unhide HS5).2.2.2.2.size; have hs5 := ((unhide HS5).2.2.2.2.cell (p := ⟨b3, o3 + k, none⟩) hb3).trans hv3; clear ho5 hg5 hgg5 hlt5))
                            refine (sep_any wA.heap.size r cur (.slice pc cur.length cc) w5 (by omega) (by omega) hsz5 (unhide HS5).2.1).mono ?_
                            rintro e0 w6 ⟨vs, sp, rfl, hsp, hbuf6, hg6⟩
                            have HS6 := hide ((unhide HS5).cur hbuf6 hg6)
                            have hsz6 := (unhide HS6).2.2.2.2.size
                            have hspl := sep_len hsp
                            have Hsp := hide hsp
                            clear hbuf6 hg6 hsp
                            go_wp2_with (at_builtin; (refine Lib.wpList_append_own_string _ rfl (.tmp 131) (.tmp 132) 24 9 rfl wA.heap.size 5 i5 Tryd.underlying24 Tryd.underlying9 hi5 hy0 hy1 hy2 _ (cur ++ sp).length (BV (cur ++ sp)) rfl (unhide HS6).2.1 ⟨t.toArray⟩ rfl (by rw [size_S]; simp only [List.length_append]; unfold maxLen; omega) (by rw [size_S]; simp only [List.length_append]; omega) (by omega) ?_; intro v7 w7 ho7 hg7 hx7; have HS7 := hide ((unhide HS6).cur (buf_str ho7) hg7); clear ho7 hg7 hx7))
                            have HR7 := hide ((unhide HR).more hlt hcp (unhide Hsp) (unhide Ht) htl (unhide HS7))
                            clear HR HS2
                            go_roundw
                            case rel => exact ⟨k + 1, _, _, _, _, _, _, _, rfl, rfl, rfl, by go_num, unhide HR7⟩
                            case measure => simp [intOf]; omega
                          · go_wp2_with (at_builtin; first | (refine wpList_append_lies _ rfl (.tmp 91) (.tmp 93) 22 rfl wA.heap.size 9 i9 (.string ⟨#[]⟩) 1 16 Tryd.underlying22 hi9 hz0 hz1 hz2 rfl (by decide) vt tags.length (tags.map S) rfl ((unhide HS2).2.2.1.alloc _) ⟨w2.heap.size, 0, none⟩ 1 1 [S t] rfl rfl (by exact cells_new _ [S t] _ _ rfl) (fun u hu => by simp at hu; subst hu; rfl) (by decide) (by unfold maxLen; omega) (by omega) (by simp; omega) _ rfl ?_; intro g4 cap4 w5 ho5 hg5 hgg5 hlt5; have HS5 := hide ((unhide HS2).tag ho5 hg5 hgg5); have hsz5 := (unhide HS5).2.2.2.2.size; clear ho5 hg5 hgg5 hlt5))
                            refine (sep_any wA.heap.size 0 cur (.slice pc cur.length cc) w5 (by omega) (by omega) hsz5 (unhide HS5).2.1).mono ?_
                            rintro e0 w6 ⟨vs, sp, rfl, hsp, hbuf6, hg6⟩
                            have HS6 := hide ((unhide HS5).cur hbuf6 hg6)
                            have hsz6 := (unhide HS6).2.2.2.2.size
                            have hspl := sep_len hsp
                            have Hsp := hide hsp
                            clear hbuf6 hg6 hsp
                            go_wp2_with (at_builtin; (refine Lib.wpList_append_own_string _ rfl (.tmp 131) (.tmp 132) 24 9 rfl wA.heap.size 5 i5 Tryd.underlying24 Tryd.underlying9 hi5 hy0 hy1 hy2 _ (cur ++ sp).length (BV (cur ++ sp)) rfl (unhide HS6).2.1 ⟨t.toArray⟩ rfl (by rw [size_S]; simp only [List.length_append]; unfold maxLen; omega) (by rw [size_S]; simp only [List.length_append]; omega) (by omega) ?_; intro v7 w7 ho7 hg7 hx7; have HS7 := hide ((unhide HS6).cur (buf_str ho7) hg7); clear ho7 hg7 hx7))
                            have HR7 := hide ((unhide HR).more hlt hcp (unhide Hsp) (unhide Ht) htl (unhide HS7))
                            clear HR HS2
                            go_roundw
                            case rel => exact ⟨k + 1, _, _, _, _, _, _, _, rfl, rfl, rfl, by go_num, unhide HR7⟩
                            case measure => simp [intOf]; omega
                  · obtain rfl : k = n := by omega
                    have hvlk : Vals.length ≤ 65536 := by omega
                    have hSt := (unhide HR).2.2.2.1
                    rcases Nat.eq_zero_or_pos cur.length with hc0 | hcp
                    · obtain rfl : cur = [] := List.eq_nil_of_length_eq_zero hc0
                      have HP8 : Hid (PlE false (Vals ++ [([32, 44, 32], [])]) tags) := ⟨_, (unhide HR).2.2.2.2.tail⟩
                      have HS0 := hide hSt
                      clear hc0 hSt
                      go_wp2_with (at_builtin; (refine wpList_append_lies _ rfl (.tmp 142) (.tmp 143) 22 rfl wA.heap.size 9 i9 (.string ⟨#[]⟩) 1 16 Tryd.underlying22 hi9 hz0 hz1 hz2 rfl (by decide) vv Vals.length (Vals.map fun p => S p.1) rfl ((unhide HS0).1.alloc _) ⟨wr.heap.size, 0, none⟩ 1 1 [.string ⟨#[32, 44, 32]⟩] rfl rfl (by exact cells_new _ [.string ⟨#[32, 44, 32]⟩] _ _ rfl) (fun u hu => by simp at hu; subst hu; rfl) (by decide) (by unfold maxLen; omega) (by omega) (by simp; omega) _ rfl ?_; intro g8 cap8 w8 ho8 hg8 hgg8 hlt8; have HS8 := hide ((unhide HS0).val (V := [32, 44, 32]) (E := []) ho8 hg8 hgg8); have hsz8 := (unhide HS8).2.2.2.2.size; clear ho8 hg8 hgg8 hlt8))
                      clear HR HS0
                      obtain ⟨pt, ct, rfl, _⟩ := row_form (unhide HS8).2.2.1
                      have HV8 := hide (unhide HS8).1
                      have hVl : (Vals ++ [([32, 44, 32], [])]).length ≤ 1000000 := by simp; omega
                      have HVl := hide hVl
                      have htg1 : tags.length ≤ 100000 := by omega
                      have HEnd := hide (end_anyE false (Vals ++ [([32, 44, 32], [])]) tags _ w8 wA.heap.size (unhide HP8) hVl htg1 (unhide HV8))
                      clear HV8 HVl hVl htg1
                      refine (unhide HEnd).mono ?_
                      rintro e0 w9 ⟨vl, rfl, hvl9, hB9⟩
                      obtain ⟨pl, cl, rfl, hsg9⟩ := row_seg rfl hvl9
                      have HS9 := hide ((unhide HS8).below hB9)
                      obtain ⟨pt', ct', ept, hsgt⟩ := row_seg rfl (unhide HS9).2.2.1
                      cases ept
                      have Hsg9 := hide hsg9
                      have Hsgt := hide hsgt
                      have HB9 := hide (unhide HS9).2.2.2.2
                      clear hvl9 hB9 hsg9 hsgt HS8 HP8
                      have htk : tags.length ≤ 65536 := by omega
                      generalize htgl : tags.length = m at htk
                      rw [htgl] at Hsg9 Hsgt
                      have Htgl := hide htgl
                      clear htgl
                      go_wp2_with fail
                      refine (same_any pl pt m cl ct (fun j => tags[j]?.getD []) _ (by omega) ((unhide Hsg9).below ((Below.refl _ _).alloc (Nat.le_refl _) _)) ((unhide Hsgt).below ((Below.refl _ _).alloc (Nat.le_refl _) _))).mono ?_
                      rintro e0 wz ⟨rfl, hBz⟩
                      have hB1 : Below w.heap.size w w9 := (unhide HBA).trans ((unhide HB9).mono (unhide HBA).size)
                      have HBz : Hid (Below w.heap.size w wz) := (hB1.alloc hB1.size _).trans (hBz.mono (by have := hB1.size; simp; omega))
                      clear hBz hB1
                      go_wp2
                      go_ret
                      exact ⟨rfl, unhide HBz⟩
                    · have HP8 : Hid (PlE false (Vals ++ [(cur, E)] ++ [([32, 44, 32], [])]) tags) := ⟨_, ((unhide HR).2.2.2.2.flush (by omega)).tail'⟩
                      have hcv := conv_S hSt.2.1
                      have HS0 := hide hSt
                      clear hSt
                      go_wp2_with (at_builtin; first | (refine wpList_append_lies _ rfl (.tmp 137) (.tmp 140) 22 rfl wA.heap.size 9 i9 (.string ⟨#[]⟩) 1 16 Tryd.underlying22 hi9 hz0 hz1 hz2 rfl (by decide) vv Vals.length (Vals.map fun p => S p.1) rfl ((unhide HS0).1.alloc _) ⟨wr.heap.size, 0, none⟩ 1 1 [S cur] rfl rfl (by exact cells_new _ [S cur] _ _ rfl) (fun u hu => by simp at hu; subst hu; rfl) (by decide) (by unfold maxLen; omega) (by omega) (by simp; omega) _ rfl ?_; intro g6 cap6 w6 ho6 hg6 hgg6 hlt6; have HS6 := hide ((unhide HS0).val (V := cur) (E := E) ho6 hg6 hgg6); have hsz6 := (unhide HS6).2.2.2.2.size; clear ho6 hg6 hgg6 hlt6) | (refine wpList_append_lies _ rfl (.tmp 142) (.tmp 143) 22 rfl wA.heap.size 9 i9 (.string ⟨#[]⟩) 1 16 Tryd.underlying22 hi9 hz0 hz1 hz2 rfl (by decide) _ (Vals ++ [(cur, E)]).length ((Vals ++ [(cur, E)]).map fun p => S p.1) rfl ((unhide HS6).1.alloc _) ⟨w6.heap.size, 0, none⟩ 1 1 [.string ⟨#[32, 44, 32]⟩] rfl rfl (by exact cells_new _ [.string ⟨#[32, 44, 32]⟩] _ _ rfl) (fun u hu => by simp at hu; subst hu; rfl) (by decide) (by unfold maxLen; simp only [List.length_append, List.length_cons, List.length_nil]; omega) (by simp only [List.length_append, List.length_cons, List.length_nil]; omega) (by simp; omega) _ rfl ?_; intro g8 cap8 w8 ho8 hg8 hgg8 hlt8; have HS8 := hide ((unhide HS6).val (V := [32, 44, 32]) (E := []) ho8 hg8 hgg8); have hsz8 := (unhide HS8).2.2.2.2.size; clear ho8 hg8 hgg8 hlt8))
                      clear HR HS0 HS6
                      have e8 : (Vals ++ [(cur, E)]).length = Vals.length + 1 := by simp
                      rw [e8] at HS8
                      clear e8
                      obtain ⟨pt, ct, rfl, _⟩ := row_form (unhide HS8).2.2.1
                      have HV8 := hide (unhide HS8).1
                      have hVl : (Vals ++ [(cur, E)] ++ [([32, 44, 32], [])]).length ≤ 1000000 := by simp; omega
                      have HVl := hide hVl
                      have htg1 : tags.length ≤ 100000 := by omega
                      have HEnd := hide (end_anyE false (Vals ++ [(cur, E)] ++ [([32, 44, 32], [])]) tags _ w8 wA.heap.size (unhide HP8) hVl htg1 (unhide HV8))
                      clear HV8 HVl hVl htg1
                      refine (unhide HEnd).mono ?_
                      rintro e0 w9 ⟨vl, rfl, hvl9, hB9⟩
                      obtain ⟨pl, cl, rfl, hsg9⟩ := row_seg rfl hvl9
                      have HS9 := hide ((unhide HS8).below hB9)
                      obtain ⟨pt', ct', ept, hsgt⟩ := row_seg rfl (unhide HS9).2.2.1
                      cases ept
                      have Hsg9 := hide hsg9
                      have Hsgt := hide hsgt
                      have HB9 := hide (unhide HS9).2.2.2.2
                      clear hvl9 hB9 hsg9 hsgt HS8 HP8
                      have htk : tags.length ≤ 65536 := by omega
                      generalize htgl : tags.length = m at htk
                      rw [htgl] at Hsg9 Hsgt
                      have Htgl := hide htgl
                      clear htgl
                      go_wp2_with fail
                      refine (same_any pl pt m cl ct (fun j => tags[j]?.getD []) _ (by omega) ((unhide Hsg9).below ((Below.refl _ _).alloc (Nat.le_refl _) _)) ((unhide Hsgt).below ((Below.refl _ _).alloc (Nat.le_refl _) _))).mono ?_
                      rintro e0 wz ⟨rfl, hBz⟩
                      have hB1 : Below w.heap.size w w9 := (unhide HBA).trans ((unhide HB9).mono (unhide HBA).size)
                      have HBz : Hid (Below w.heap.size w wz) := (hB1.alloc hB1.size _).trans (hBz.mono (by have := hB1.size; simp; omega))
                      clear hBz hB1
                      go_wp2
                      go_ret
                      exact ⟨rfl, unhide HBz⟩
              | true =>
                go_wp2_with (at_builtin; refine wpList_append_lies _ rfl (.tmp 66) (.tmp 67) 24 rfl wA.heap.size 5 i5 (.int .u8 0) 1 1 Tryd.underlying24 hi5 hy0 hy1 hy2 rfl (by decide) _ 0 [] rfl (World.ownsRow_nil _ _ _ _) ⟨wA.heap.size, 0, none⟩ 1 1 [.int .u8 42] rfl rfl (by exact cells_new _ [.int .u8 42] _ _ rfl) (fun u hu => by simp at hu; subst hu; rfl) (by decide) (by unfold maxLen; omega) (by omega) (by simp) _ rfl ?_; intro g4 cap4 w5 ho5 hg5 hgg5 hlt5; have HR0 : Hid (Rnd wA true n 0 (.slice none 0 0) (.slice (some ⟨g4, 0, none⟩) (0 + 1) cap4) (.slice none 0 0) [] [42] [[42]] [] w5) := ⟨Nat.zero_le _, Nat.le_refl _, Nat.le_refl _, (St.start wA).cur ho5 (grown_of_alloc hg5), fun p hp => absurd hp (by simp), CurOK.first (.inl rfl), rfl, fun t ht => absurd ht (by simp), by simp⟩; clear ho5 hg5 hgg5 hlt5)
                go_wp2
                go_loopw [11, 12, 13, 14] (fun a b d i wr => ∃ (k : Nat) (vv vc vt : Value) (Vals : List (List UInt8 × List (List UInt8))) (cur : List UInt8) (E tags : List (List UInt8)), vv = a ∧ vc = b ∧ vt = d ∧ i = .int .i64 (k : Int) ∧ Rnd wA true n k vv vc vt Vals cur E tags wr) (fun _ _ _ i _ => n - (intOf i).toNat)
                case atStart => exact ⟨0, _, _, _, _, _, _, _, rfl, rfl, rfl, rfl, unhide HR0⟩
                case round =>
                  obtain ⟨k, vv, vc, vt, Vals, cur, E, tags, rfl, rfl, rfl, rfl, hR⟩ := hrel
                  clear HR0
                  obtain ⟨hk, htg, hvl, hSt, hPl⟩ := hR
                  obtain ⟨pc, cc, rfl, _⟩ := row_form hSt.2.1
                  have hcl := hPl.2.2.2.2
                  have HR := hide (show Rnd wA true n k vv (.slice pc cur.length cc) vt Vals cur E tags wr from ⟨hk, htg, hvl, hSt, hPl⟩)
                  have hszr := hSt.2.2.2.2.size
                  clear hSt hPl
                  by_cases hlt : k < n
                  · obtain ⟨b, o, rfl, hcs⟩ := unhide HQ (by omega)
                    have hck := ((unhide HR).2.2.2.1.2.2.2.2.cell (p := ⟨b, o + k, none⟩) (World.block_lt_of_cell? _ _ (hcs k hlt))).trans (hcs k hlt)
                    have hFk := unhide HFl k hlt
                    clear hcs
                    by_cases hk1 : k < n1
                    · obtain ⟨b1, o1, rfl, hc1⟩ := unhide HQ1 (by omega)
                      have hv1 := ((unhide HR).2.2.2.1.2.2.2.2.cell (p := ⟨b1, o1 + k, none⟩) (World.block_lt_of_cell? _ _ (hc1 k hk1))).trans (hc1 k hk1)
                      obtain ⟨bw, hbw⟩ : ∃ bw, fw k = bw := ⟨_, rfl⟩
                      dsimp only at hv1
                      rw [hbw] at hv1
                      clear hc1 hbw
                      have HT := hide (build_any (F k) bw wr hFk)
                      go_wp2_with fail
                      refine (unhide HT).mono ?_
                      rintro e0 w2 ⟨t, rfl, ht, htl0, hB2⟩
                      have htl : t.length ≤ 1048580 := by omega
                      have Ht := hide ht
                      have HS2 := hide ((unhide HR).2.2.2.1.below hB2)
                      have hsz2 := (unhide HS2).2.2.2.2.size
                      clear HT ht hB2
                      by_cases hk2 : k < n2
                      · obtain ⟨b2, o2, rfl, hc2⟩ := unhide HQ2 (by omega)
                        have hb2 := World.block_lt_of_cell? _ _ (hc2 k hk2)
                        have hv2 := hc2 k hk2
                        clear hc2
                        cases hnv : fv k with
                        | true =>
                          dsimp only at hv2
                          rw [hnv] at hv2
                          clear hnv
                          rcases Nat.eq_zero_or_pos cur.length with hc0 | hcp
                          · obtain rfl : cur = [] := List.eq_nil_of_length_eq_zero hc0
                            clear hc0
                            go_wp2_with (at_builtin; first | (refine wpList_append_lies _ rfl (.tmp 91) (.tmp 93) 22 rfl wA.heap.size 9 i9 (.string ⟨#[]⟩) 1 16 Tryd.underlying22 hi9 hz0 hz1 hz2 rfl (by decide) vt tags.length (tags.map S) rfl ((unhide HS2).2.2.1.alloc _) ⟨w2.heap.size, 0, none⟩ 1 1 [S t] rfl rfl (by exact cells_new _ [S t] _ _ rfl) (fun u hu => by simp at hu; subst hu; rfl) (by decide) (by unfold maxLen; omega) (by omega) (by simp; omega) _ rfl ?_; intro g4 cap4 w5 ho5 hg5 hgg5 hlt5; have HS5 := hide ((unhide HS2).tag ho5 hg5 hgg5); have hsz5 := (unhide HS5).2.2.2.2.size; have hv5 := ((unhide HS5).2.2.2.2.cell (p := ⟨b2, o2 + k, none⟩) hb2).trans hv2; clear ho5 hg5 hgg5 hlt5) | (refine Lib.wpList_append_own_string _ rfl (.tmp 131) (.tmp 132) 24 9 rfl wA.heap.size 5 i5 Tryd.underlying24 Tryd.underlying9 hi5 hy0 hy1 hy2 _ ([]).length (BV ([])) rfl (unhide HS5).2.1 ⟨t.toArray⟩ rfl (by rw [size_S]; simp only [List.length_nil]; unfold maxLen; omega) (by rw [size_S]; simp only [List.length_nil]; omega) (by omega) ?_; intro v7 w7 ho7 hg7 hx7; have HS7 := hide ((unhide HS5).cur (buf_str ho7) hg7); clear ho7 hg7 hx7))
                            have HR7 := hide ((unhide HR).first hlt (unhide Ht) htl (unhide HS7))
                            clear HR HS2
                            go_roundw
                            case rel => exact ⟨k + 1, _, _, _, _, _, _, _, rfl, rfl, rfl, by go_num, unhide HR7⟩
                            case measure => simp [intOf]; omega
                          · go_wp2_with (at_builtin; first | (refine wpList_append_lies _ rfl (.tmp 91) (.tmp 93) 22 rfl wA.heap.size 9 i9 (.string ⟨#[]⟩) 1 16 Tryd.underlying22 hi9 hz0 hz1 hz2 rfl (by decide) vt tags.length (tags.map S) rfl ((unhide HS2).2.2.1.alloc _) ⟨w2.heap.size, 0, none⟩ 1 1 [S t] rfl rfl (by exact cells_new _ [S t] _ _ rfl) (fun u hu => by simp at hu; subst hu; rfl) (by decide) (by unfold maxLen; omega) (by omega) (by simp; omega) _ rfl ?_; intro g4 cap4 w5 ho5 hg5 hgg5 hlt5; have HS5 := hide ((unhide HS2).tag ho5 hg5 hgg5); have hsz5 := (unhide HS5).2.2.2.2.size; have hv5 := ((unhide HS5).2.2.2.2.cell (p := ⟨b2, o2 + k, none⟩) hb2).trans hv2; have hcv := conv_S (unhide HS5).2.1; clear ho5 hg5 hgg5 hlt5) | (refine wpList_append_lies _ rfl (.tmp 110) (.tmp 113) 22 rfl wA.heap.size 9 i9 (.string ⟨#[]⟩) 1 16 Tryd.underlying22 hi9 hz0 hz1 hz2 rfl (by decide) vv Vals.length (Vals.map fun p => S p.1) rfl ((unhide HS5).1.alloc _) ⟨w5.heap.size, 0, none⟩ 1 1 [S cur] rfl rfl (by exact cells_new _ [S cur] _ _ rfl) (fun u hu => by simp at hu; subst hu; rfl) (by decide) (by unfold maxLen; omega) (by omega) (by simp; omega) _ rfl ?_; intro g6 cap6 w6 ho6 hg6 hgg6 hlt6; have HS6 := hide ((unhide HS5).val (E := E) ho6 hg6 hgg6).nil; have hsz6 := (unhide HS6).2.2.2.2.size; clear ho6 hg6 hgg6 hlt6) | (refine Lib.wpList_append_own_string _ rfl (.tmp 131) (.tmp 132) 24 9 rfl wA.heap.size 5 i5 Tryd.underlying24 Tryd.underlying9 hi5 hy0 hy1 hy2 _ ([]).length (BV ([])) rfl (unhide HS6).2.1 ⟨t.toArray⟩ rfl (by rw [size_S]; simp only [List.length_nil]; unfold maxLen; omega) (by rw [size_S]; simp only [List.length_nil]; omega) (by omega) ?_; intro v7 w7 ho7 hg7 hx7; have HS7 := hide ((unhide HS6).cur (buf_str ho7) hg7); clear ho7 hg7 hx7))
                            have HR7 := hide ((unhide HR).flushed hlt b0 (unhide Ht) htl (unhide HS7))
                            clear HR HS2
                            go_roundw
                            case rel => exact ⟨k + 1, _, _, _, _, _, _, _, rfl, rfl, rfl, by go_num, unhide HR7⟩
                            case measure => simp [intOf]; omega
                        | false =>
                          dsimp only at hv2
                          rw [hnv] at hv2
                          clear hnv
                          rcases Nat.eq_zero_or_pos cur.length with hc0 | hcp
                          · obtain rfl : cur = [] := List.eq_nil_of_length_eq_zero hc0
                            clear hc0
                            go_wp2_with (at_builtin; first | (refine wpList_append_lies _ rfl (.tmp 91) (.tmp 93) 22 rfl wA.heap.size 9 i9 (.string ⟨#[]⟩) 1 16 Tryd.underlying22 hi9 hz0 hz1 hz2 rfl (by decide) vt tags.length (tags.map S) rfl ((unhide HS2).2.2.1.alloc _) ⟨w2.heap.size, 0, none⟩ 1 1 [S t] rfl rfl (by exact cells_new _ [S t] _ _ rfl) (fun u hu => by simp at hu; subst hu; rfl) (by decide) (by unfold maxLen; omega) (by omega) (by simp; omega) _ rfl ?_; intro g4 cap4 w5 ho5 hg5 hgg5 hlt5; have HS5 := hide ((unhide HS2).tag ho5 hg5 hgg5); have hsz5 := (unhide HS5).2.2.2.2.size; have hv5 := ((unhide HS5).2.2.2.2.cell (p := ⟨b2, o2 + k, none⟩) hb2).trans hv2; clear ho5 hg5 hgg5 hlt5) | (refine Lib.wpList_append_own_string _ rfl (.tmp 131) (.tmp 132) 24 9 rfl wA.heap.size 5 i5 Tryd.underlying24 Tryd.underlying9 hi5 hy0 hy1 hy2 _ ([]).length (BV ([])) rfl (unhide HS5).2.1 ⟨t.toArray⟩ rfl (by rw [size_S]; simp only [List.length_nil]; unfold maxLen; omega) (by rw [size_S]; simp only [List.length_nil]; omega) (by omega) ?_; intro v7 w7 ho7 hg7 hx7; have HS7 := hide ((unhide HS5).cur (buf_str ho7) hg7); clear ho7 hg7 hx7))
                            have HR7 := hide ((unhide HR).first hlt (unhide Ht) htl (unhide HS7))
                            clear HR HS2
                            go_roundw
                            case rel => exact ⟨k + 1, _, _, _, _, _, _, _, rfl, rfl, rfl, by go_num, unhide HR7⟩
                            case measure => simp [intOf]; omega
                          · by_cases hk3 : k < n3
                            · obtain ⟨b3, o3, rfl, hc3⟩ := unhide HQ3 (by omega)
                              have hb3 := World.block_lt_of_cell? _ _ (hc3 k hk3)
                              have hv3 := hc3 k hk3
                              obtain ⟨x, hx⟩ : ∃ x, fs k = x := ⟨_, rfl⟩
                              have hx0 := (unhide Hfs k hk3).1
                              have hx1 := (unhide Hfs k hk3).2
                              dsimp only at hv3
                              rw [hx] at hv3 hx0 hx1
                              obtain ⟨r, hr, hr2⟩ := rem3 x hx0
                              clear hc3 hx hx0 hx1
                              go_wp2_with (at_builtin; first | (refine wpList_append_lies _ rfl (.tmp 91) (.tmp 93) 22 rfl wA.heap.size 9 i9 (.string ⟨#[]⟩) 1 16 Tryd.underlying22 hi9 hz0 hz1 hz2 rfl (by decide) vt tags.length (tags.map S) rfl ((unhide HS2).2.2.1.alloc _) ⟨w2.heap.size, 0, none⟩ 1 1 [S t] rfl rfl (by exact cells_new _ [S t] _ _ rfl) (fun u hu => by simp at hu; subst hu; rfl) (by decide) (by unfold maxLen; omega) (by omega) (by simp; omega) _ rfl ?_; intro g4 cap4 w5 ho5 hg5 hgg5 hlt5; have HS5 := hide ((unhide HS2).tag ho5 hg5 hgg5); have hsz5 := (unhide HS5).2.2.2.2.size; have hv5 := ((unhide HS5).2.2.2.2.cell (p := ⟨b2, o2 + k, none⟩) hb2).trans hv2; have hs5 := ((unhide HS5).2.2.2.2.cell (p := ⟨b3, o3 + k, none⟩) hb3).trans hv3; clear ho5 hg5 hgg5 hlt5))
                              refine (sep_any wA.heap.size r cur (.slice pc cur.length cc) w5 (by omega) (by omega) hsz5 (unhide HS5).2.1).mono ?_
                              rintro e0 w6 ⟨vs, sp, rfl, hsp, hbuf6, hg6⟩
                              have HS6 := hide ((unhide HS5).cur hbuf6 hg6)
                              have hsz6 := (unhide HS6).2.2.2.2.size
                              have hspl := sep_len hsp
                              have Hsp := hide hsp
                              clear hbuf6 hg6 hsp
                              go_wp2_with (at_builtin; (refine Lib.wpList_append_own_string _ rfl (.tmp 131) (.tmp 132) 24 9 rfl wA.heap.size 5 i5 Tryd.underlying24 Tryd.underlying9 hi5 hy0 hy1 hy2 _ (cur ++ sp).length (BV (cur ++ sp)) rfl (unhide HS6).2.1 ⟨t.toArray⟩ rfl (by rw [size_S]; simp only [List.length_append]; unfold maxLen; omega) (by rw [size_S]; simp only [List.length_append]; omega) (by omega) ?_; intro v7 w7 ho7 hg7 hx7; have HS7 := hide ((unhide HS6).cur (buf_str ho7) hg7); clear ho7 hg7 hx7))
                              have HR7 := hide ((unhide HR).more hlt hcp (unhide Hsp) (unhide Ht) htl (unhide HS7))
                              clear HR HS2
                              go_roundw
                              case rel => exact ⟨k + 1, _, _, _, _, _, _, _, rfl, rfl, rfl, by go_num, unhide HR7⟩
                              case measure => simp [intOf]; omega
                            · go_wp2_with (at_builtin; first | (refine wpList_append_lies _ rfl (.tmp 91) (.tmp 93) 22 rfl wA.heap.size 9 i9 (.string ⟨#[]⟩) 1 16 Tryd.underlying22 hi9 hz0 hz1 hz2 rfl (by decide) vt tags.length (tags.map S) rfl ((unhide HS2).2.2.1.alloc _) ⟨w2.heap.size, 0, none⟩ 1 1 [S t] rfl rfl (by exact cells_new _ [S t] _ _ rfl) (fun u hu => by simp at hu; subst hu; rfl) (by decide) (by unfold maxLen; omega) (by omega) (by simp; omega) _ rfl ?_; intro g4 cap4 w5 ho5 hg5 hgg5 hlt5; have HS5 := hide ((unhide HS2).tag ho5 hg5 hgg5); have hsz5 := (unhide HS5).2.2.2.2.size; have hv5 := ((unhide HS5).2.2.2.2.cell (p := ⟨b2, o2 + k, none⟩) hb2).trans hv2; clear ho5 hg5 hgg5 hlt5))
                              refine (sep_any wA.heap.size 0 cur (.slice pc cur.length cc) w5 (by omega) (by omega) hsz5 (unhide HS5).2.1).mono ?_
                              rintro e0 w6 ⟨vs, sp, rfl, hsp, hbuf6, hg6⟩
                              have HS6 := hide ((unhide HS5).cur hbuf6 hg6)
                              have hsz6 := (unhide HS6).2.2.2.2.size
                              have hspl := sep_len hsp
                              have Hsp := hide hsp
                              clear hbuf6 hg6 hsp
                              go_wp2_with (at_builtin; (refine Lib.wpList_append_own_string _ rfl (.tmp 131) (.tmp 132) 24 9 rfl wA.heap.size 5 i5 Tryd.underlying24 Tryd.underlying9 hi5 hy0 hy1 hy2 _ (cur ++ sp).length (BV (cur ++ sp)) rfl (unhide HS6).2.1 ⟨t.toArray⟩ rfl (by rw [size_S]; simp only [List.length_append]; unfold maxLen; omega) (by rw [size_S]; simp only [List.length_append]; omega) (by omega) ?_; intro v7 w7 ho7 hg7 hx7; have HS7 := hide ((unhide HS6).cur (buf_str ho7) hg7); clear ho7 hg7 hx7))
                              have HR7 := hide ((unhide HR).more hlt hcp (unhide Hsp) (unhide Ht) htl (unhide HS7))
                              clear HR HS2
                              go_roundw
                              case rel => exact ⟨k + 1, _, _, _, _, _, _, _, rfl, rfl, rfl, by go_num, unhide HR7⟩
                              case measure => simp [intOf]; omega
                      · rcases Nat.eq_zero_or_pos cur.length with hc0 | hcp
                        · obtain rfl : cur = [] := List.eq_nil_of_length_eq_zero hc0
                          clear hc0
                          go_wp2_with (at_builtin; first | (refine wpList_append_lies _ rfl (.tmp 91) (.tmp 93) 22 rfl wA.heap.size 9 i9 (.string ⟨#[]⟩) 1 16 Tryd.underlying22 hi9 hz0 hz1 hz2 rfl (by decide) vt tags.length (tags.map S) rfl ((unhide HS2).2.2.1.alloc _) ⟨w2.heap.size, 0, none⟩ 1 1 [S t] rfl rfl (by exact cells_new _ [S t] _ _ rfl) (fun u hu => by simp at hu; subst hu; rfl) (by decide) (by unfold maxLen; omega) (by omega) (by simp; omega) _ rfl ?_; intro g4 cap4 w5 ho5 hg5 hgg5 hlt5; have HS5 := hide ((unhide HS2).tag ho5 hg5 hgg5); have hsz5 := (unhide HS5).2.2.2.2.size; clear ho5 hg5 hgg5 hlt5) | (refine Lib.wpList_append_own_string _ rfl (.tmp 131) (.tmp 132) 24 9 rfl wA.heap.size 5 i5 Tryd.underlying24 Tryd.underlying9 hi5 hy0 hy1 hy2 _ ([]).length (BV ([])) rfl (unhide HS5).2.1 ⟨t.toArray⟩ rfl (by rw [size_S]; simp only [List.length_nil]; unfold maxLen; omega) (by rw [size_S]; simp only [List.length_nil]; omega) (by omega) ?_; intro v7 w7 ho7 hg7 hx7; have HS7 := hide ((unhide HS5).cur (buf_str ho7) hg7); clear ho7 hg7 hx7))
                          have HR7 := hide ((unhide HR).first hlt (unhide Ht) htl (unhide HS7))
                          clear HR HS2
                          go_roundw
                          case rel => exact ⟨k + 1, _, _, _, _, _, _, _, rfl, rfl, rfl, by go_num, unhide HR7⟩
                          case measure => simp [intOf]; omega
                        · by_cases hk3 : k < n3
                          · obtain ⟨b3, o3, rfl, hc3⟩ := unhide HQ3 (by omega)
                            have hb3 := World.block_lt_of_cell? _ _ (hc3 k hk3)
                            have hv3 := hc3 k hk3
                            obtain ⟨x, hx⟩ : ∃ x, fs k = x := ⟨_, rfl⟩
                            have hx0 := (unhide Hfs k hk3).1
                            have hx1 := (unhide Hfs k hk3).2
                            dsimp only at hv3
                            rw [hx] at hv3 hx0 hx1
                            obtain ⟨r, hr, hr2⟩ := rem3 x hx0
                            clear hc3 hx hx0 hx1
                            go_wp2_with (at_builtin; first | (refine wpList_append_lies _ rfl (.tmp 91) (.tmp 93) 22 rfl wA.heap.size 9 i9 (.string ⟨#[]⟩) 1 16 Tryd.underlying22 hi9 hz0 hz1 hz2 rfl (by decide) vt tags.length (tags.map S) rfl ((unhide HS2).2.2.1.alloc _) ⟨w2.heap.size, 0, none⟩ 1 1 [S t] rfl rfl (by exact cells_new _ [S t] _ _ rfl) (fun u hu => by simp at hu; subst hu; rfl) (by decide) (by unfold maxLen; omega) (by omega) (by simp; omega) _ rfl ?_; intro g4 cap4 w5 ho5 hg5 hgg5 hlt5; have HS5 := hide ((unhide HS2).tag ho5 hg5 hgg5); have hsz5 := (unhide HS5).2.2.2.2.size; have hs5 := ((unhide HS5).2.2.2.2.cell (p := ⟨b3, o3 + k, none⟩) hb3).trans hv3; clear ho5 hg5 hgg5 hlt5))
                            refine (sep_any wA.heap.size r cur (.slice pc cur.length cc) w5 (by omega) (by omega) hsz5 (unhide HS5).2.1).mono ?_
                            rintro e0 w6 ⟨vs, sp, rfl, hsp, hbuf6, hg6⟩
                            have HS6 := hide ((unhide HS5).cur hbuf6 hg6)
                            have hsz6 := (unhide HS6).2.2.2.2.size
                            have hspl := sep_len hsp
                            have Hsp := hide hsp
                            clear hbuf6 hg6 hsp
                            go_wp2_with (at_builtin; (refine Lib.wpList_append_own_string _ rfl (.tmp 131) (.tmp 132) 24 9 rfl wA.heap.size 5 i5 Tryd.underlying24 Tryd.underlying9 hi5 hy0 hy1 hy2 _ (cur ++ sp).length (BV (cur ++ sp)) rfl (unhide HS6).2.1 ⟨t.toArray⟩ rfl (by rw [size_S]; simp only [List.length_append]; unfold maxLen; omega) (by rw [size_S]; simp only [List.length_append]; omega) (by omega) ?_; intro v7 w7 ho7 hg7 hx7; have HS7 := hide ((unhide HS6).cur (buf_str ho7) hg7); clear ho7 hg7 hx7))
                            have HR7 := hide ((unhide HR).more hlt hcp (unhide Hsp) (unhide Ht) htl (unhide HS7))
                            clear HR HS2
                            go_roundw
                            case rel => exact ⟨k + 1, _, _, _, _, _, _, _, rfl, rfl, rfl, by go_num, unhide HR7⟩
                            case measure => simp [intOf]; omega
                          · go_wp2_with (at_builtin; first | (refine wpList_append_lies _ rfl (.tmp 91) (.tmp 93) 22 rfl wA.heap.size 9 i9 (.string ⟨#[]⟩) 1 16 Tryd.underlying22 hi9 hz0 hz1 hz2 rfl (by decide) vt tags.length (tags.map S) rfl ((unhide HS2).2.2.1.alloc _) ⟨w2.heap.size, 0, none⟩ 1 1 [S t] rfl rfl (by exact cells_new _ [S t] _ _ rfl) (fun u hu => by simp at hu; subst hu; rfl) (by decide) (by unfold maxLen; omega) (by omega) (by simp; omega) _ rfl ?_; intro g4 cap4 w5 ho5 hg5 hgg5 hlt5; have HS5 := hide ((unhide HS2).tag ho5 hg5 hgg5); have hsz5 := (unhide HS5).2.2.2.2.size; clear ho5 hg5 hgg5 hlt5))
                            refine (sep_any wA.heap.size 0 cur (.slice pc cur.length cc) w5 (by omega) (by omega) hsz5 (unhide HS5).2.1).mono ?_
                            rintro e0 w6 ⟨vs, sp, rfl, hsp, hbuf6, hg6⟩
                            have HS6 := hide ((unhide HS5).cur hbuf6 hg6)
                            have hsz6 := (unhide HS6).2.2.2.2.size
                            have hspl := sep_len hsp
                            have Hsp := hide hsp
                            clear hbuf6 hg6 hsp
                            go_wp2_with (at_builtin; (refine Lib.wpList_append_own_string _ rfl (.tmp 131) (.tmp 132) 24 9 rfl wA.heap.size 5 i5 Tryd.underlying24 Tryd.underlying9 hi5 hy0 hy1 hy2 _ (cur ++ sp).length (BV (cur ++ sp)) rfl (unhide HS6).2.1 ⟨t.toArray⟩ rfl (by rw [size_S]; simp only [List.length_append]; unfold maxLen; omega) (by rw [size_S]; simp only [List.length_append]; omega) (by omega) ?_; intro v7 w7 ho7 hg7 hx7; have HS7 := hide ((unhide HS6).cur (buf_str ho7) hg7); clear ho7 hg7 hx7))
                            have HR7 := hide ((unhide HR).more hlt hcp (unhide Hsp) (unhide Ht) htl (unhide HS7))
                            clear HR HS2
                            go_roundw
                            case rel => exact ⟨k + 1, _, _, _, _, _, _, _, rfl, rfl, rfl, by go_num, unhide HR7⟩
                            case measure => simp [intOf]; omega
                    · have HT := hide (build_any (F k) false wr hFk)
                      go_wp2_with fail
                      refine (unhide HT).mono ?_
                      rintro e0 w2 ⟨t, rfl, ht, htl0, hB2⟩
                      have htl : t.length ≤ 1048580 := by omega
                      have Ht := hide ht
                      have HS2 := hide ((unhide HR).2.2.2.1.below hB2)
                      have hsz2 := (unhide HS2).2.2.2.2.size
                      clear HT ht hB2
                      by_cases hk2 : k < n2
                      · obtain ⟨b2, o2, rfl, hc2⟩ := unhide HQ2 (by omega)
                        have hb2 := World.block_lt_of_cell? _ _ (hc2 k hk2)
                        have hv2 := hc2 k hk2
                        clear hc2
                        cases hnv : fv k with
                        | true =>
                          dsimp only at hv2
                          rw [hnv] at hv2
                          clear hnv
                          rcases Nat.eq_zero_or_pos cur.length with hc0 | hcp
                          · obtain rfl : cur = [] := List.eq_nil_of_length_eq_zero hc0
                            clear hc0
                            go_wp2_with (at_builtin; first | (refine wpList_append_lies _ rfl (.tmp 91) (.tmp 93) 22 rfl wA.heap.size 9 i9 (.string ⟨#[]⟩) 1 16 Tryd.underlying22 hi9 hz0 hz1 hz2 rfl (by decide) vt tags.length (tags.map S) rfl ((unhide HS2).2.2.1.alloc _) ⟨w2.heap.size, 0, none⟩ 1 1 [S t] rfl rfl (by exact cells_new _ [S t] _ _ rfl) (fun u hu => by simp at hu; subst hu; rfl) (by decide) (by unfold maxLen; omega) (by omega) (by simp; omega) _ rfl ?_; intro g4 cap4 w5 ho5 hg5 hgg5 hlt5; have HS5 := hide ((unhide HS2).tag ho5 hg5 hgg5); have hsz5 := (unhide HS5).2.2.2.2.size; have hv5 := ((unhide HS5).2.2.2.2.cell (p := ⟨b2, o2 + k, none⟩) hb2).trans hv2; clear ho5 hg5 hgg5 hlt5) | (refine Lib.wpList_append_own_string _ rfl (.tmp 131) (.tmp 132) 24 9 rfl wA.heap.size 5 i5 Tryd.underlying24 Tryd.underlying9 hi5 hy0 hy1 hy2 _ ([]).length (BV ([])) rfl (unhide HS5).2.1 ⟨t.toArray⟩ rfl (by rw [size_S]; simp only [List.length_nil]; unfold maxLen; omega) (by rw [size_S]; simp only [List.length_nil]; omega) (by omega) ?_; intro v7 w7 ho7 hg7 hx7; have HS7 := hide ((unhide HS5).cur (buf_str ho7) hg7); clear ho7 hg7 hx7))
                            have HR7 := hide ((unhide HR).first hlt (unhide Ht) htl (unhide HS7))
                            clear HR HS2
                            go_roundw
                            case rel => exact ⟨k + 1, _, _, _, _, _, _, _, rfl, rfl, rfl, by go_num, unhide HR7⟩
                            case measure => simp [intOf]; omega
                          · go_wp2_with (at_builtin; first | (refine wpList_append_lies _ rfl (.tmp 91) (.tmp 93) 22 rfl wA.heap.size 9 i9 (.string ⟨#[]⟩) 1 16 Tryd.underlying22 hi9 hz0 hz1 hz2 rfl (by decide) vt tags.length (tags.map S) rfl ((unhide HS2).2.2.1.alloc _) ⟨w2.heap.size, 0, none⟩ 1 1 [S t] rfl rfl (by exact cells_new _ [S t] _ _ rfl) (fun u hu => by simp at hu; subst hu; rfl) (by decide) (by unfold maxLen; omega) (by omega) (by simp; omega) _ rfl ?_; intro g4 cap4 w5 ho5 hg5 hgg5 hlt5; have HS5 := hide ((unhide HS2).tag ho5 hg5 hgg5); have hsz5 := (unhide HS5).2.2.2.2.size; have hv5 := ((unhide HS5).2.2.2.2.cell (p := ⟨b2, o2 + k, none⟩) hb2).trans hv2; have hcv := conv_S (unhide HS5).2.1; clear ho5 hg5 hgg5 hlt5) | (refine wpList_append_lies _ rfl (.tmp 110) (.tmp 113) 22 rfl wA.heap.size 9 i9 (.string ⟨#[]⟩) 1 16 Tryd.underlying22 hi9 hz0 hz1 hz2 rfl (by decide) vv Vals.length (Vals.map fun p => S p.1) rfl ((unhide HS5).1.alloc _) ⟨w5.heap.size, 0, none⟩ 1 1 [S cur] rfl rfl (by exact cells_new _ [S cur] _ _ rfl) (fun u hu => by simp at hu; subst hu; rfl) (by decide) (by unfold maxLen; omega) (by omega) (by simp; omega) _ rfl ?_; intro g6 cap6 w6 ho6 hg6 hgg6 hlt6; have HS6 := hide ((unhide HS5).val (E := E) ho6 hg6 hgg6).nil; have hsz6 := (unhide HS6).2.2.2.2.size; clear ho6 hg6 hgg6 hlt6) | (refine Lib.wpList_append_own_string _ rfl (.tmp 131) (.tmp 132) 24 9 rfl wA.heap.size 5 i5 Tryd.underlying24 Tryd.underlying9 hi5 hy0 hy1 hy2 _ ([]).length (BV ([])) rfl (unhide HS6).2.1 ⟨t.toArray⟩ rfl (by rw [size_S]; simp only [List.length_nil]; unfold maxLen; omega) (by rw [size_S]; simp only [List.length_nil]; omega) (by omega) ?_; intro v7 w7 ho7 hg7 hx7; have HS7 := hide ((unhide HS6).cur (buf_str ho7) hg7); clear ho7 hg7 hx7))
                            have HR7 := hide ((unhide HR).flushed hlt b0 (unhide Ht) htl (unhide HS7))
                            clear HR HS2
                            go_roundw
                            case rel => exact ⟨k + 1, _, _, _, _, _, _, _, rfl, rfl, rfl, by go_num, unhide HR7⟩
                            case measure => simp [intOf]; omega
                        | false =>
                          dsimp only at hv2
                          rw [hnv] at hv2
                          clear hnv
                          rcases Nat.eq_zero_or_pos cur.length with hc0 | hcp
                          · obtain rfl : cur = [] := List.eq_nil_of_length_eq_zero hc0
                            clear hc0
                            go_wp2_with (at_builtin; first | (refine wpList_append_lies _ rfl (.tmp 91) (.tmp 93) 22 rfl wA.heap.size 9 i9 (.string ⟨#[]⟩) 1 16 Tryd.underlying22 hi9 hz0 hz1 hz2 rfl (by decide) vt tags.length (tags.map S) rfl ((unhide HS2).2.2.1.alloc _) ⟨w2.heap.size, 0, none⟩ 1 1 [S t] rfl rfl (by exact cells_new _ [S t] _ _ rfl) (fun u hu => by simp at hu; subst hu; rfl) (by decide) (by unfold maxLen; omega) (by omega) (by simp; omega) _ rfl ?_; intro g4 cap4 w5 ho5 hg5 hgg5 hlt5; have HS5 := hide ((unhide HS2).tag ho5 hg5 hgg5); have hsz5 := (unhide HS5).2.2.2.2.size; have hv5 := ((unhide HS5).2.2.2.2.cell (p := ⟨b2, o2 + k, none⟩) hb2).trans hv2; clear ho5 hg5 hgg5 hlt5) | (refine Lib.wpList_append_own_string _ rfl (.tmp 131) (.tmp 132) 24 9 rfl wA.heap.size 5 i5 Tryd.underlying24 Tryd.underlying9 hi5 hy0 hy1 hy2 _ ([]).length (BV ([])) rfl (unhide HS5).2.1 ⟨t.toArray⟩ rfl (by rw [size_S]; simp only [List.length_nil]; unfold maxLen; omega) (by rw [size_S]; simp only [List.length_nil]; omega) (by omega) ?_; intro v7 w7 ho7 hg7 hx7; have HS7 := hide ((unhide HS5).cur (buf_str ho7) hg7); clear ho7 hg7 hx7))
                            have HR7 := hide ((unhide HR).first hlt (unhide Ht) htl (unhide HS7))
                            clear HR HS2
                            go_roundw
                            case rel => exact ⟨k + 1, _, _, _, _, _, _, _, rfl, rfl, rfl, by go_num, unhide HR7⟩
                            case measure => simp [intOf]; omega
                          · by_cases hk3 : k < n3
                            · obtain ⟨b3, o3, rfl, hc3⟩ := unhide HQ3 (by omega)
                              have hb3 := World.block_lt_of_cell? _ _ (hc3 k hk3)
                              have hv3 := hc3 k hk3
                              obtain ⟨x, hx⟩ : ∃ x, fs k = x := ⟨_, rfl⟩
                              have hx0 := (unhide Hfs k hk3).1
                              have hx1 := (unhide Hfs k hk3).2
                              dsimp only at hv3
                              rw [hx] at hv3 hx0 hx1
                              obtain ⟨r, hr, hr2⟩ := rem3 x hx0
                              clear hc3 hx hx0 hx1
                              go_wp2_with (at_builtin; first | (refine wpList_append_lies _ rfl (.tmp 91) (.tmp 93) 22 rfl wA.heap.size 9 i9 (.string ⟨#[]⟩) 1 16 Tryd.underlying22 hi9 hz0 hz1 hz2 rfl (by decide) vt tags.length (tags.map S) rfl ((unhide HS2).2.2.1.alloc _) ⟨w2.heap.size, 0, none⟩ 1 1 [S t] rfl rfl (by exact cells_new _ [S t] _ _ rfl) (fun u hu => by simp at hu; subst hu; rfl) (by decide) (by unfold maxLen; omega) (by omega) (by simp; omega) _ rfl ?_; intro g4 cap4 w5 ho5 hg5 hgg5 hlt5; have HS5 := hide ((unhide HS2).tag ho5 hg5 hgg5); have hsz5 := (unhide HS5).2.2.2.2.size; have hv5 := ((unhide HS5).2.2.2.2.cell (p := ⟨b2, o2 + k, none⟩) hb2).trans hv2; have hs5 := ((unhide HS5).2.2.2.2.cell (p := ⟨b3, o3 + k, none⟩) hb3).trans hv3; clear ho5 hg5 hgg5 hlt5))
                              refine (sep_any wA.heap.size r cur (.slice pc cur.length cc) w5 (by omega) (by omega) hsz5 (unhide HS5).2.1).mono ?_
                              rintro e0 w6 ⟨vs, sp, rfl, hsp, hbuf6, hg6⟩
                              have HS6 := hide ((unhide HS5).cur hbuf6 hg6)
                              have hsz6 := (unhide HS6).2.2.2.2.size
                              have hspl := sep_len hsp
                              have Hsp := hide hsp
                              clear hbuf6 hg6 hsp
                              go_wp2_with (at_builtin; (refine Lib.wpList_append_own_string _ rfl (.tmp 131) (.tmp 132) 24 9 rfl wA.heap.size 5 i5 Tryd.underlying24 Tryd.underlying9 hi5 hy0 hy1 hy2 _ (cur ++ sp).length (BV (cur ++ sp)) rfl (unhide HS6).2.1 ⟨t.toArray⟩ rfl (by rw [size_S]; simp only [List.length_append]; unfold maxLen; omega) (by rw [size_S]; simp only [List.length_append]; omega) (by omega) ?_; intro v7 w7 ho7 hg7 hx7; have HS7 := hide ((unhide HS6).cur (buf_str ho7) hg7); clear ho7 hg7 hx7))
                              have HR7 := hide ((unhide HR).more hlt hcp (unhide Hsp) (unhide Ht) htl (unhide HS7))
                              clear HR HS2
                              go_roundw
                              case rel => exact ⟨k + 1, _, _, _, _, _, _, _, rfl, rfl, rfl, by go_num, unhide HR7⟩
                              case measure => simp [intOf]; omega
                            · go_wp2_with (at_builtin; first | (refine wpList_append_lies _ rfl (.tmp 91) (.tmp 93) 22 rfl wA.heap.size 9 i9 (.string ⟨#[]⟩) 1 16 Tryd.underlying22 hi9 hz0 hz1 hz2 rfl (by decide) vt tags.length (tags.map S) rfl ((unhide HS2).2.2.1.alloc _) ⟨w2.heap.size, 0, none⟩ 1 1 [S t] rfl rfl (by exact cells_new _ [S t] _ _ rfl) (fun u hu => by simp at hu; subst hu; rfl) (by decide) (by unfold maxLen; omega) (by omega) (by simp; omega) _ rfl ?_; intro g4 cap4 w5 ho5 hg5 hgg5 hlt5; have HS5 := hide ((unhide HS2).tag ho5 hg5 hgg5); have hsz5 := (unhide HS5).2.2.2.2.size; have hv5 := ((unhide HS5).2.2.2.2.cell (p := ⟨b2, o2 + k, none⟩) hb2).trans hv2; clear ho5 hg5 hgg5 hlt5))
                              refine (sep_any wA.heap.size 0 cur (.slice pc cur.length cc) w5 (by omega) (by omega) hsz5 (unhide HS5).2.1).mono ?_
                              rintro e0 w6 ⟨vs, sp, rfl, hsp, hbuf6, hg6⟩
                              have HS6 := hide ((unhide HS5).cur hbuf6 hg6)
                              have hsz6 := (unhide HS6).2.2.2.2.size
                              have hspl := sep_len hsp
                              have Hsp := hide hsp
                              clear hbuf6 hg6 hsp
                              go_wp2_with (at_builtin; (refine Lib.wpList_append_own_string _ rfl (.tmp 131) (.tmp 132) 24 9 rfl wA.heap.size 5 i5 Tryd.underlying24 Tryd.underlying9 hi5 hy0 hy1 hy2 _ (cur ++ sp).length (BV (cur ++ sp)) rfl (unhide HS6).2.1 ⟨t.toArray⟩ rfl (by rw [size_S]; simp only [List.length_append]; unfold maxLen; omega) (by rw [size_S]; simp only [List.length_append]; omega) (by omega) ?_; intro v7 w7 ho7 hg7 hx7; have HS7 := hide ((unhide HS6).cur (buf_str ho7) hg7); clear ho7 hg7 hx7))
                              have HR7 := hide ((unhide HR).more hlt hcp (unhide Hsp) (unhide Ht) htl (unhide HS7))
                              clear HR HS2
                              go_roundw
                              case rel => exact ⟨k + 1, _, _, _, _, _, _, _, rfl, rfl, rfl, by go_num, unhide HR7⟩
                              case measure => simp [intOf]; omega
                      · rcases Nat.eq_zero_or_pos cur.length with hc0 | hcp
                        · obtain rfl : cur = [] := List.eq_nil_of_length_eq_zero hc0
                          clear hc0
                          go_wp2_with (at_builtin; first | (refine wpList_append_lies _ rfl (.tmp 91) (.tmp 93) 22 rfl wA.heap.size 9 i9 (.string ⟨#[]⟩) 1 16 Tryd.underlying22 hi9 hz0 hz1 hz2 rfl (by decide) vt tags.length (tags.map S) rfl ((unhide HS2).2.2.1.alloc _) ⟨w2.heap.size, 0, none⟩ 1 1 [S t] rfl rfl (by exact cells_new _ [S t] _ _ rfl) (fun u hu => by simp at hu; subst hu; rfl) (by decide) (by unfold maxLen; omega) (by omega) (by simp; omega) _ rfl ?_; intro g4 cap4 w5 ho5 hg5 hgg5 hlt5; have HS5 := hide ((unhide HS2).tag ho5 hg5 hgg5); have hsz5 := (unhide HS5).2.2.2.2.size; clear ho5 hg5 hgg5 hlt5) | (refine Lib.wpList_append_own_string _ rfl (.tmp 131) (.tmp 132) 24 9 rfl wA.heap.size 5 i5 Tryd.underlying24 Tryd.underlying9 hi5 hy0 hy1 hy2 _ ([]).length (BV ([])) rfl (unhide HS5).2.1 ⟨t.toArray⟩ rfl (by rw [size_S]; simp only [List.length_nil]; unfold maxLen; omega) (by rw [size_S]; simp only [List.length_nil]; omega) (by omega) ?_; intro v7 w7 ho7 hg7 hx7; have HS7 := hide ((unhide HS5).cur (buf_str ho7) hg7); clear ho7 hg7 hx7))
                          have HR7 := hide ((unhide HR).first hlt (unhide Ht) htl (unhide HS7))
                          clear HR HS2
                          go_roundw
                          case rel => exact ⟨k + 1, _, _, _, _, _, _, _, rfl, rfl, rfl, by go_num, unhide HR7⟩
                          case measure => simp [intOf]; omega
                        · by_cases hk3 : k < n3
                          · obtain ⟨b3, o3, rfl, hc3⟩ := unhide HQ3 (by omega)
                            have hb3 := World.block_lt_of_cell? _ _ (hc3 k hk3)
                            have hv3 := hc3 k hk3
                            obtain ⟨x, hx⟩ : ∃ x, fs k = x := ⟨_, rfl⟩
                            have hx0 := (unhide Hfs k hk3).1
                            have hx1 := (unhide Hfs k hk3).2
                            dsimp only at hv3
                            rw [hx] at hv3 hx0 hx1
                            obtain ⟨r, hr, hr2⟩ := rem3 x hx0
                            clear hc3 hx hx0 hx1
                            go_wp2_with (at_builtin; first | (refine wpList_append_lies _ rfl (.tmp 91) (.tmp 93) 22 rfl wA.heap.size 9 i9 (.string ⟨#[]⟩) 1 16 Tryd.underlying22 hi9 hz0 hz1 hz2 rfl (by decide) vt tags.length (tags.map S) rfl ((unhide HS2).2.2.1.alloc _) ⟨w2.heap.size, 0, none⟩ 1 1 [S t] rfl rfl (by exact cells_new _ [S t] _ _ rfl) (fun u hu => by simp at hu; subst hu; rfl) (by decide) (by unfold maxLen; omega) (by omega) (by simp; omega) _ rfl ?_; intro g4 cap4 w5 ho5 hg5 hgg5 hlt5; have HS5 := hide ((unhide HS2).tag ho5 hg5 hgg5); have hsz5 := (unhide HS5).2.2.2.2.size; have hs5 := ((unhide HS5).2.2.2.2.cell (p := ⟨b3, o3 + k, none⟩) hb3).trans hv3; clear ho5 hg5 hgg5 hlt5))
                            refine (sep_any wA.heap.size r cur (.slice pc cur.length cc) w5 (by omega) (by omega) hsz5 (unhide HS5).2.1).mono ?_
                            rintro e0 w6 ⟨vs, sp, rfl, hsp, hbuf6, hg6⟩
                            have HS6 := hide ((unhide HS5).cur hbuf6 hg6)
                            have hsz6 := (unhide HS6).2.2.2.2.size
                            have hspl := sep_len hsp
                            have Hsp := hide hsp
                            clear hbuf6 hg6 hsp
                            go_wp2_with (at_builtin; (refine Lib.wpList_append_own_string _ rfl (.tmp 131) (.tmp 132) 24 9 rfl wA.heap.size 5 i5 Tryd.underlying24 Tryd.underlying9 hi5 hy0 hy1 hy2 _ (cur ++ sp).length (BV (cur ++ sp)) rfl (unhide HS6).2.1 ⟨t.toArray⟩ rfl (by rw [size_S]; simp only [List.length_append]; unfold maxLen; omega) (by rw [size_S]; simp only [List.length_append]; omega) (by omega) ?_; intro v7 w7 ho7 hg7 hx7; have HS7 := hide ((unhide HS6).cur (buf_str ho7) hg7); clear ho7 hg7 hx7))
                            have HR7 := hide ((unhide HR).more hlt hcp (unhide Hsp) (unhide Ht) htl (unhide HS7))
                            clear HR HS2
                            go_roundw
                            case rel => exact ⟨k + 1, _, _, _, _, _, _, _, rfl, rfl, rfl, by go_num, unhide HR7⟩
                            case measure => simp [intOf]; omega
                          · go_wp2_with (at_builtin; first | (refine wpList_append_lies _ rfl (.tmp 91) (.tmp 93) 22 rfl wA.heap.size 9 i9 (.string ⟨#[]⟩) 1 16 Tryd.underlying22 hi9 hz0 hz1 hz2 rfl (by decide) vt tags.length (tags.map S) rfl ((unhide HS2).2.2.1.alloc _) ⟨w2.heap.size, 0, none⟩ 1 1 [S t] rfl rfl (by exact cells_new _ [S t] _ _ rfl) (fun u hu => by simp at hu; subst hu; rfl) (by decide) (by unfold maxLen; omega) (by omega) (by simp; omega) _ rfl ?_; intro g4 cap4 w5 ho5 hg5 hgg5 hlt5; have HS5 := hide ((unhide HS2).tag ho5 hg5 hgg5); have hsz5 := (unhide HS5).2.2.2.2.size; clear ho5 hg5 hgg5 hlt5))
                            refine (sep_any wA.heap.size 0 cur (.slice pc cur.length cc) w5 (by omega) (by omega) hsz5 (unhide HS5).2.1).mono ?_
                            rintro e0 w6 ⟨vs, sp, rfl, hsp, hbuf6, hg6⟩
                            have HS6 := hide ((unhide HS5).cur hbuf6 hg6)
                            have hsz6 := (unhide HS6).2.2.2.2.size
                            have hspl := sep_len hsp
                            have Hsp := hide hsp
                            clear hbuf6 hg6 hsp
                            go_wp2_with (at_builtin; (refine Lib.wpList_append_own_string _ rfl (.tmp 131) (.tmp 132) 24 9 rfl wA.heap.size 5 i5 Tryd.underlying24 Tryd.underlying9 hi5 hy0 hy1 hy2 _ (cur ++ sp).length (BV (cur ++ sp)) rfl (unhide HS6).2.1 ⟨t.toArray⟩ rfl (by rw [size_S]; simp only [List.length_append]; unfold maxLen; omega) (by rw [size_S]; simp only [List.length_append]; omega) (by omega) ?_; intro v7 w7 ho7 hg7 hx7; have HS7 := hide ((unhide HS6).cur (buf_str ho7) hg7); clear ho7 hg7 hx7))
                            have HR7 := hide ((unhide HR).more hlt hcp (unhide Hsp) (unhide Ht) htl (unhide HS7))
                            clear HR HS2
                            go_roundw
                            case rel => exact ⟨k + 1, _, _, _, _, _, _, _, rfl, rfl, rfl, by go_num, unhide HR7⟩
                            case measure => simp [intOf]; omega
                  · obtain rfl : k = n := by omega
                    have hvlk : Vals.length ≤ 65536 := by omega
                    have hSt := (unhide HR).2.2.2.1
                    rcases Nat.eq_zero_or_pos cur.length with hc0 | hcp
                    · obtain rfl : cur = [] := List.eq_nil_of_length_eq_zero hc0
                      have HP8 : Hid (PlE true (Vals ++ [([32, 44, 32], [])]) tags) := ⟨_, (unhide HR).2.2.2.2.tail⟩
                      have HS0 := hide hSt
                      clear hc0 hSt
                      go_wp2_with (at_builtin; (refine wpList_append_lies _ rfl (.tmp 142) (.tmp 143) 22 rfl wA.heap.size 9 i9 (.string ⟨#[]⟩) 1 16 Tryd.underlying22 hi9 hz0 hz1 hz2 rfl (by decide) vv Vals.length (Vals.map fun p => S p.1) rfl ((unhide HS0).1.alloc _) ⟨wr.heap.size, 0, none⟩ 1 1 [.string ⟨#[32, 44, 32]⟩] rfl rfl (by exact cells_new _ [.string ⟨#[32, 44, 32]⟩] _ _ rfl) (fun u hu => by simp at hu; subst hu; rfl) (by decide) (by unfold maxLen; omega) (by omega) (by simp; omega) _ rfl ?_; intro g8 cap8 w8 ho8 hg8 hgg8 hlt8; have HS8 := hide ((unhide HS0).val (V := [32, 44, 32]) (E := []) ho8 hg8 hgg8); have hsz8 := (unhide HS8).2.2.2.2.size; clear ho8 hg8 hgg8 hlt8))
                      clear HR HS0
                      obtain ⟨pt, ct, rfl, _⟩ := row_form (unhide HS8).2.2.1
                      have HV8 := hide (unhide HS8).1
                      have hVl : (Vals ++ [([32, 44, 32], [])]).length ≤ 1000000 := by simp; omega
                      have HVl := hide hVl
                      have htg1 : tags.length ≤ 100000 := by omega
                      have HEnd := hide (end_anyE true (Vals ++ [([32, 44, 32], [])]) tags _ w8 wA.heap.size (unhide HP8) hVl htg1 (unhide HV8))
                      clear HV8 HVl hVl htg1
                      refine (unhide HEnd).mono ?_
                      rintro e0 w9 ⟨vl, rfl, hvl9, hB9⟩
                      obtain ⟨pl, cl, rfl, hsg9⟩ := row_seg rfl hvl9
                      have HS9 := hide ((unhide HS8).below hB9)
                      obtain ⟨pt', ct', ept, hsgt⟩ := row_seg rfl (unhide HS9).2.2.1
                      cases ept
                      have Hsg9 := hide hsg9
                      have Hsgt := hide hsgt
                      have HB9 := hide (unhide HS9).2.2.2.2
                      clear hvl9 hB9 hsg9 hsgt HS8 HP8
                      have htk : tags.length ≤ 65536 := by omega
                      generalize htgl : tags.length = m at htk
                      rw [htgl] at Hsg9 Hsgt
                      have Htgl := hide htgl
                      clear htgl
                      go_wp2_with fail
                      refine (same_any pl pt m cl ct (fun j => tags[j]?.getD []) _ (by omega) ((unhide Hsg9).below ((Below.refl _ _).alloc (Nat.le_refl _) _)) ((unhide Hsgt).below ((Below.refl _ _).alloc (Nat.le_refl _) _))).mono ?_
                      rintro e0 wz ⟨rfl, hBz⟩
                      have hB1 : Below w.heap.size w w9 := (unhide HBA).trans ((unhide HB9).mono (unhide HBA).size)
                      have HBz : Hid (Below w.heap.size w wz) := (hB1.alloc hB1.size _).trans (hBz.mono (by have := hB1.size; simp; omega))
                      clear hBz hB1
                      go_wp2
                      go_ret
                      exact ⟨rfl, unhide HBz⟩
                    · have HP8 : Hid (PlE true (Vals ++ [(cur, E)] ++ [([32, 44, 32], [])]) tags) := ⟨_, ((unhide HR).2.2.2.2.flush (by omega)).tail'⟩
                      have hcv := conv_S hSt.2.1
                      have HS0 := hide hSt
                      clear hSt
                      go_wp2_with (at_builtin; first | (refine wpList_append_lies _ rfl (.tmp 137) (.tmp 140) 22 rfl wA.heap.size 9 i9 (.string ⟨#[]⟩) 1 16 Tryd.underlying22 hi9 hz0 hz1 hz2 rfl (by decide) vv Vals.length (Vals.map fun p => S p.1) rfl ((unhide HS0).1.alloc _) ⟨wr.heap.size, 0, none⟩ 1 1 [S cur] rfl rfl (by exact cells_new _ [S cur] _ _ rfl) (fun u hu => by simp at hu; subst hu; rfl) (by decide) (by unfold maxLen; omega) (by omega) (by simp; omega) _ rfl ?_; intro g6 cap6 w6 ho6 hg6 hgg6 hlt6; have HS6 := hide ((unhide HS0).val (V := cur) (E := E) ho6 hg6 hgg6); have hsz6 := (unhide HS6).2.2.2.2.size; clear ho6 hg6 hgg6 hlt6) | (refine wpList_append_lies _ rfl (.tmp 142) (.tmp 143) 22 rfl wA.heap.size 9 i9 (.string ⟨#[]⟩) 1 16 Tryd.underlying22 hi9 hz0 hz1 hz2 rfl (by decide) _ (Vals ++ [(cur, E)]).length ((Vals ++ [(cur, E)]).map fun p => S p.1) rfl ((unhide HS6).1.alloc _) ⟨w6.heap.size, 0, none⟩ 1 1 [.string ⟨#[32, 44, 32]⟩] rfl rfl (by exact cells_new _ [.string ⟨#[32, 44, 32]⟩] _ _ rfl) (fun u hu => by simp at hu; subst hu; rfl) (by decide) (by unfold maxLen; simp only [List.length_append, List.length_cons, List.length_nil]; omega) (by simp only [List.length_append, List.length_cons, List.length_nil]; omega) (by simp; omega) _ rfl ?_; intro g8 cap8 w8 ho8 hg8 hgg8 hlt8; have HS8 := hide ((unhide HS6).val (V := [32, 44, 32]) (E := []) ho8 hg8 hgg8); have hsz8 := (unhide HS8).2.2.2.2.size; clear ho8 hg8 hgg8 hlt8))
                      clear HR HS0 HS6
                      have e8 : (Vals ++ [(cur, E)]).length = Vals.length + 1 := by simp
                      rw [e8] at HS8
                      clear e8
                      obtain ⟨pt, ct, rfl, _⟩ := row_form (unhide HS8).2.2.1
                      have HV8 := hide (unhide HS8).1
                      have hVl : (Vals ++ [(cur, E)] ++ [([32, 44, 32], [])]).length ≤ 1000000 := by simp; omega
                      have HVl := hide hVl
                      have htg1 : tags.length ≤ 100000 := by omega
                      have HEnd := hide (end_anyE true (Vals ++ [(cur, E)] ++ [([32, 44, 32], [])]) tags _ w8 wA.heap.size (unhide HP8) hVl htg1 (unhide HV8))
                      clear HV8 HVl hVl htg1
                      refine (unhide HEnd).mono ?_
                      rintro e0 w9 ⟨vl, rfl, hvl9, hB9⟩
                      obtain ⟨pl, cl, rfl, hsg9⟩ := row_seg rfl hvl9
                      have HS9 := hide ((unhide HS8).below hB9)
                      obtain ⟨pt', ct', ept, hsgt⟩ := row_seg rfl (unhide HS9).2.2.1
                      cases ept
                      have Hsg9 := hide hsg9
                      have Hsgt := hide hsgt
                      have HB9 := hide (unhide HS9).2.2.2.2
                      clear hvl9 hB9 hsg9 hsgt HS8 HP8
                      have htk : tags.length ≤ 65536 := by omega
                      generalize htgl : tags.length = m at htk
                      rw [htgl] at Hsg9 Hsgt
                      have Htgl := hide htgl
                      clear htgl
                      go_wp2_with fail
                      refine (same_any pl pt m cl ct (fun j => tags[j]?.getD []) _ (by omega) ((unhide Hsg9).below ((Below.refl _ _).alloc (Nat.le_refl _) _)) ((unhide Hsgt).below ((Below.refl _ _).alloc (Nat.le_refl _) _))).mono ?_
                      rintro e0 wz ⟨rfl, hBz⟩
                      have hB1 : Below w.heap.size w w9 := (unhide HBA).trans ((unhide HB9).mono (unhide HBA).size)
                      have HBz : Hid (Below w.heap.size w wz) := (hB1.alloc hB1.size _).trans (hBz.mono (by have := hB1.size; simp; omega))
                      clear hBz hB1
                      go_wp2
                      go_ret
                      exact ⟨rfl, unhide HBz⟩
            · go_wp2
              go_ret
              exact ⟨rfl, Below.refl _ _⟩
          · go_wp2
            go_ret
            exact ⟨rfl, Below.refl _ _⟩
        · go_wp2
          go_ret
          exact ⟨rfl, Below.refl _ _⟩
      · go_wp2
        go_ret
        exact ⟨rfl, Below.refl _ _⟩
    · go_wp2
      go_ret
      exact ⟨rfl, Below.refl _ _⟩

end Go.Proofs.Qxb6000766aDoor
