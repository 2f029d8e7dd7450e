/-
  EntityTags, walked, on values that are made of good elements.
-/
import Derived.Test.Qxb6000766aDoorPlain
import Derived.OwnWalk
namespace Go.Proofs.Qxb6000766aDoor
open Go.RowKit

def flat (EF : Nat → List (List UInt8)) : Nat → List (List UInt8)
  | 0 => []
  | n + 1 => flat EF n ++ EF n
theorem flat_mono (EF : Nat → List (List UInt8)) (k n : Nat) (h : k ≤ n) : (flat EF k).length ≤ (flat EF n).length := by
  induction n with
  | zero => rw [Nat.le_zero.1 h]; exact Nat.le_refl _
  | succ n ih =>
    by_cases e : k = n + 1
    · rw [e]; exact Nat.le_refl _
    · have := ih (by omega)
      rw [flat, List.length_append]; omega

def sl : Value → Nat
  | .string s => s.size
  | _ => 0
theorem cells_S (l : List UInt8) : (S l).cells = #[S l] := rfl
theorem sl_S (l : List UInt8) : sl (S l) = l.length := rfl

def EntPost (D : List (List UInt8)) (w : World) (e : Ending) (w' : World) : Prop :=
  ∃ vl, e = .returned (.tuple #[.agg #[.bool (D.contains [42]), vl], .bool true]) ∧ w'.ownsRow (w.heap.size + 2) 9 1 vl (ns D).length ((ns D).map S) ∧ Below w.heap.size w w'

/-- What the inner loop holds. -/
def Inner (w : World) (F : List (List UInt8)) (N : Nat) (es : List (List UInt8)) (v : List UInt8) (D : List (List UInt8)) (vl : Value) (wr : World) : Prop :=
  GoodT es v ∧ D ++ es = F ∧ v.length ≤ N ∧ Ent w D vl wr

set_option maxRecDepth 100000 in
set_option maxHeartbeats 4000000 in
theorem ent_any (p : Option Addr) (n c : Nat) (VF : Nat → List UInt8) (EF : Nat → List (List UInt8)) (w : World) (hn : n ≤ 1000000) (hseg : SegV w p n (fun j => S (VF j)))
    (hgood : ∀ j, j < n → GoodT (EF j) (T3 (VF j)) ∧ (VF j).length ≤ 1000000000000000000) (hN : (flat EF n).length ≤ 1000000) :
    Calls Tryd.prog 13 #[.slice p n c] w (EntPost (flat EF n) w) := by
  obtain ⟨i0, hi, hz0, hz1, hz2⟩ := info_parts Tryd.info9
  have gS := guard_S
  have cS := cells_S
  simp only [Value.cells] at cS
  have Hseg := hide hseg
  have Hgood := hide hgood
  have HN := hide hN
  have HE0 := hide (Ent.start w)
  clear hseg hgood hN
  go_enter Tryd.func13, Tryd.ntmps13
  go_wp2
  go_loopw [12] (fun a wr => ∃ (k : Nat) (vl : Value), a = .int .i64 (k : Int) ∧ k ≤ n ∧ Ent w (flat EF k) vl wr) (fun a _ => n - (intOf a).toNat)
  case atStart => exact ⟨0, _, rfl, Nat.zero_le _, unhide HE0⟩
  case round =>
    obtain ⟨k, vl, rfl, hk, hE⟩ := hrel
    have HE := hide hE
    clear HE0 hE
    by_cases hlt : k < n
    · obtain ⟨b, o, rfl, hcs⟩ := unhide Hseg (by omega)
      have hbl := World.block_lt_of_cell? _ _ (hcs k hlt)
      have hck := ((unhide HE).2.2.2.1.cell (p := ⟨b, o + k, none⟩) hbl).trans (hcs k hlt)
      clear hcs hbl
      have HT := hide (trim3 (VF k) wr)
      go_wp2_with fail
      refine (unhide HT).mono ?_
      rintro e w2 ⟨rfl, hB2⟩
      have HE2 := hide ((unhide HE).below hB2)
      clear HE hck HT hB2
      go_wp2
      obtain ⟨F, hF⟩ : ∃ F, flat EF (k + 1) = F := ⟨_, rfl⟩
      have HF := hide hF
      have hg := unhide Hgood k hlt
      have HI0 : Hid (Inner w F 1000000000000000000 (EF k) (T3 (VF k)) (flat EF k) vl w2) := ⟨hg.1, hF, Nat.le_trans (T3_le _) hg.2, unhide HE2⟩
      have HFl : Hid (F.length ≤ 1000000) := Nat.le_trans (by rw [← hF]; exact flat_mono EF _ _ hlt) (unhide HN)
      clear hF HE2 hg
      go_loopw [6] (fun a wq => ∃ (es : List (List UInt8)) (v : List UInt8) (D : List (List UInt8)) (vl : Value), a = S v ∧ Inner w F 1000000000000000000 es v D vl wq) (fun a _ => sl a)
      case atStart => exact ⟨_, _, _, _, rfl, unhide HI0⟩
      case round =>
        clear HI0
        obtain ⟨es, v, D, vl2, rfl, hI⟩ := hrel
        cases es with
        | nil =>
          obtain ⟨g1, g2, g3, g4⟩ := hI
          have h1 : ∀ w, (binOp .neq 9 (S v) (.string ⟨#[]⟩)).run Tryd.prog w = .ok (.bool false) w := fun w => by
            rw [show v = [] from g1]; exact neq_S [] [] w
          have HE4 : Hid (Ent w (flat EF (k + 1)) vl2 wr) := by
            rw [unhide HF, ← g2, List.append_nil]; exact g4
          clear g1 g2 g3 g4
          go_wp2
          exact ⟨⟨k + 1, vl2, by go_num, by omega, unhide HE4⟩, by simp [intOf]; omega⟩
        | cons e es =>
          obtain ⟨⟨r, hv, htag, hr2, hgd⟩, hDF, hvN, hE⟩ := hI
          have hpos := el_pos htag
          have hvl : v.length = e.length + r.length := by rw [hv, List.length_append]
          have h1 : ∀ w, (binOp .neq 9 (S v) (.string ⟨#[]⟩)).run Tryd.prog w = .ok (.bool true) w := fun w => by
            rw [show Value.string ⟨#[]⟩ = S [] from rfl, neq_S]
            cases v with
            | nil => simp at hvl; omega
            | cons _ _ => rfl
          have HT1 := hide (tag_any e r htag (by rw [← hv]; exact hvN) wr)
          rw [← hv] at HT1
          obtain ⟨r2, hr⟩ : ∃ r2, T2 r = r2 := ⟨_, rfl⟩
          have HT2 := hide (trim2 r)
          rw [hr] at HT2 hr2 hgd
          have hr2l : r2.length ≤ r.length := by rw [← hr]; exact T2_le r
          have h3l := T3_le r2
          have hms : (T3 r2).length < v.length := by omega
          have Hms := hide hms
          have HG : Hid (∀ vl' wq, Ent w (D ++ [e]) vl' wq → Inner w F 1000000000000000000 es (T3 r2) (D ++ [e]) vl' wq) := fun vl' wq h => ⟨hgd, by rw [← hDF, List.append_assoc]; rfl, by omega, h⟩
          have hDl : (ns D).length ≤ 1000000 := Nat.le_trans (ns_le D) (Nat.le_trans (by rw [← hDF, List.length_append]; omega) (unhide HFl))
          have HT3 := hide (trim3 r2)
          have HE := hide hE
          clear hv htag hgd hDF hvN hE hpos hvl hr hr2l h3l hms
          go_wp2_with fail
          refine (unhide HT1).mono ?_
          rintro e0 w3 ⟨rfl, hB3⟩
          have HE3 := hide ((unhide HE).below hB3)
          clear HE hB3 HT1
          go_wp2_with fail
          refine (unhide HT2 _).mono ?_
          rintro e0 w4 ⟨rfl, hB4⟩
          have HE4 := hide ((unhide HE3).below hB4)
          have hs4 := (unhide HE4).2.2.2.2
          obtain ⟨c0, c1, c2, _, _, _, _⟩ := (unhide HE4).cells
          clear HE3 hB4 HT2
          generalize hany : D.contains [42] = any at c0
          clear hany
          rcases hr2 with h0 | ⟨r', h0⟩
          · have q1 : ∀ w, (binOp .neq 9 (S r2) (.string ⟨#[]⟩)).run Tryd.prog w = .ok (.bool false) w := fun w => by
              rw [h0]; exact neq_S [] [] w
            clear h0
            by_cases he : e = [42]
            · have q2 : ∀ w, (binOp .eql 9 (S e) (.string ⟨#[42]⟩)).run Tryd.prog w = .ok (.bool true) w := fun w => by
                rw [he]; exact eql_S [42] [42] w
              have HS : Hid (Ent w (D ++ [e]) vl2 (w4.setCell ⟨w.heap.size + 1, 0, none⟩ (.bool true))) := by rw [he]; exact (unhide HE4).star
              clear he
              go_wp2_with fail
              refine (unhide HT3 _).mono ?_
              rintro e0 w5 ⟨rfl, hB5⟩
              have HI := hide (unhide HG _ _ ((unhide HS).below hB5))
              clear HS hB5 HT3 HG HE4 c0 c1 c2
              go_wp2
              exact ⟨⟨es, T3 r2, D ++ [e], vl2, rfl, unhide HI⟩, unhide Hms⟩
            · have q2 : ∀ w, (binOp .eql 9 (S e) (.string ⟨#[42]⟩)).run Tryd.prog w = .ok (.bool false) w := fun w => by
                have h := eql_S e [42] w
                rw [show (e == [42]) = false from by rw [beq_eq_false_iff_ne]; exact he] at h
                exact h
              have Hne := hide he
              clear he
              go_wp2_with (at_builtin; refine wpList_append_lies _ rfl (.tmp 46) (.tmp 48) 22 rfl (w.heap.size + 2) 9 i0 (.string ⟨#[]⟩) 1 16 Tryd.underlying22 hi hz0 hz1 hz2 rfl (by decide) vl2 (ns D).length ((ns D).map S) rfl ((unhide HE4).2.2.1.alloc _) ⟨w4.heap.size, 0, none⟩ 1 1 [S e] rfl rfl (by exact cells_new _ [S e] _ _ rfl) (fun u hu => by simp at hu; subst hu; rfl) (by decide) (by unfold maxLen; omega) (by omega) (by simp; omega) _ rfl ?_; intro g4 cap4 w5 ho5 hg5 hgg5 hlt5; have HP := hide ((unhide HE4).push (unhide Hne) ho5 hg5); obtain ⟨_, cc, cf⟩ := unhide HP; clear ho5 hg5 hgg5 hlt5)
              refine (unhide HT3 _).mono ?_
              rintro e0 w6 ⟨rfl, hB6⟩
              have HI := hide (unhide HG _ _ ((unhide HP).1.below hB6))
              clear HP hB6 HT3 HG HE4 c0 c1 c2
              go_wp2
              exact ⟨⟨es, T3 r2, D ++ [e], _, rfl, unhide HI⟩, unhide Hms⟩
          · have q1 : ∀ w, (binOp .neq 9 (S r2) (.string ⟨#[]⟩)).run Tryd.prog w = .ok (.bool true) w := fun w => by
              rw [h0]; exact neq_S (44 :: r') [] w
            have q3 : ∀ w, (Instr.index 9 (S r2) (.int .i64 0)).run Tryd.prog w = .ok (.int .u8 44) w := fun w => idx_S r2 0 44 (by rw [h0]; rfl) w
            clear h0
            by_cases he : e = [42]
            · have q2 : ∀ w, (binOp .eql 9 (S e) (.string ⟨#[42]⟩)).run Tryd.prog w = .ok (.bool true) w := fun w => by
                rw [he]; exact eql_S [42] [42] w
              have HS : Hid (Ent w (D ++ [e]) vl2 (w4.setCell ⟨w.heap.size + 1, 0, none⟩ (.bool true))) := by rw [he]; exact (unhide HE4).star
              clear he
              go_wp2_with fail
              refine (unhide HT3 _).mono ?_
              rintro e0 w5 ⟨rfl, hB5⟩
              have HI := hide (unhide HG _ _ ((unhide HS).below hB5))
              clear HS hB5 HT3 HG HE4 c0 c1 c2
              go_wp2
              exact ⟨⟨es, T3 r2, D ++ [e], vl2, rfl, unhide HI⟩, unhide Hms⟩
            · have q2 : ∀ w, (binOp .eql 9 (S e) (.string ⟨#[42]⟩)).run Tryd.prog w = .ok (.bool false) w := fun w => by
                have h := eql_S e [42] w
                rw [show (e == [42]) = false from by rw [beq_eq_false_iff_ne]; exact he] at h
                exact h
              have Hne := hide he
              clear he
              go_wp2_with (at_builtin; refine wpList_append_lies _ rfl (.tmp 46) (.tmp 48) 22 rfl (w.heap.size + 2) 9 i0 (.string ⟨#[]⟩) 1 16 Tryd.underlying22 hi hz0 hz1 hz2 rfl (by decide) vl2 (ns D).length ((ns D).map S) rfl ((unhide HE4).2.2.1.alloc _) ⟨w4.heap.size, 0, none⟩ 1 1 [S e] rfl rfl (by exact cells_new _ [S e] _ _ rfl) (fun u hu => by simp at hu; subst hu; rfl) (by decide) (by unfold maxLen; omega) (by omega) (by simp; omega) _ rfl ?_; intro g4 cap4 w5 ho5 hg5 hgg5 hlt5; have HP := hide ((unhide HE4).push (unhide Hne) ho5 hg5); obtain ⟨_, cc, cf⟩ := unhide HP; clear ho5 hg5 hgg5 hlt5)
              refine (unhide HT3 _).mono ?_
              rintro e0 w6 ⟨rfl, hB6⟩
              have HI := hide (unhide HG _ _ ((unhide HP).1.below hB6))
              clear HP hB6 HT3 HG HE4 c0 c1 c2
              go_wp2
              exact ⟨⟨es, T3 r2, D ++ [e], _, rfl, unhide HI⟩, unhide Hms⟩
    · obtain rfl : k = n := by omega
      obtain ⟨c0, c1, c2, c3, c4, c5, c6⟩ := (unhide HE).cells
      obtain ⟨pp, cp, rfl, _⟩ := row_form (unhide HE).2.2.1
      have HSH := hide (fun a b => (unhide HE).shut (a := a) (b := b))
      generalize hany : (flat EF k).contains [42] = any at c0
      have Hany := hide hany
      clear hany
      generalize hnl : (ns (flat EF k)).length = m at c1
      have Hnl := hide hnl
      have d0 : ((wr.setCell ⟨w.heap.size, 0, none⟩ (.bool any)).setCell ⟨w.heap.size, 1, none⟩ (.slice pp m cp)).cell? ⟨w.heap.size, 0, none⟩ = some (.bool any) := by
        rw [World.cell?_setCell_other _ _ _ _ (by simp)]
        exact World.cell?_setCell_same _ _ _ c3
      have d1 : ((wr.setCell ⟨w.heap.size, 0, none⟩ (.bool any)).setCell ⟨w.heap.size, 1, none⟩ (.slice pp m cp)).cell? ⟨w.heap.size, 1, none⟩ = some (.slice pp m cp) := by
        refine World.cell?_setCell_same (u := .slice none 0 0) _ _ _ ?_
        rw [World.cell?_setCell_other _ _ _ _ (by simp), c4]
      have Hd := hide (And.intro d0 d1)
      clear d0 d1
      go_wp2
      obtain ⟨d0, d1⟩ := unhide Hd
      refine bodyPost_ret (v := .tuple #[.agg #[.bool any, .slice pp m cp], .bool true]) (by simp [results, Tryd.results13, go_sem, d0, d1]) rfl ?_
      refine ⟨.slice pp m cp, by rw [unhide Hany], ?_⟩
      have := unhide HSH (.bool any) (.slice pp m cp)
      rw [unhide Hnl] at this ⊢
      exact this

end Go.Proofs.Qxb6000766aDoor
