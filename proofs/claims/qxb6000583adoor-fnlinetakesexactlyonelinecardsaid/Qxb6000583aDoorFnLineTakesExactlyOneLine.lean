/-
  THE TIED CARD OF FnLineTakesExactlyOneLine, PROVED.
-/
import Derived.Test.Qxb6000583aDoorCards
import Derived.Test.Qxb6000583aDoorTie
import Derived.Test.Qxb6000583aDoorCame
import Derived.Test.Qxb6000583aDoorOne
import Derived.OpenShut
import Derived.SevenTiedAt
namespace Go.Proofs.Qxb6000583aDoor
open Go.ChangeShapes Go.WideShapes Go.ChangeAt Go.RowKit

theorem one_walk (p : Option Addr) (n c : Nat) (f : Nat → Int) (pos scanned : Int) (final : Bool) (w : World) (h : Came w p n c f) (hT : Tabs w) :
    Calls Tryd.prog 4 #[.slice p n c, .int .i64 pos, .int .i64 scanned, .bool final] w (TruePost w) := by
  obtain ⟨h1, h2, h3, h4, h5⟩ := h
  have hm : n ≤ 9223372036854775807 := Nat.le_trans h3 h4
  by_cases ho : 1048576 < n ∨ (n ≤ 1048576 ∧ (pos < 0 ∨ (n : Int) < pos)) ∨ (n ≤ 1048576 ∧ 0 ≤ pos ∧ pos ≤ n ∧ (scanned < 0 ∨ (n : Int) - pos < scanned))
  · exact one_out p n c pos scanned final w hm ho
  · obtain ⟨a, rfl⟩ := Int.eq_ofNat_of_zero_le (show 0 ≤ pos by omega)
    obtain ⟨b, rfl⟩ := Int.eq_ofNat_of_zero_le (show 0 ≤ scanned by omega)
    exact one_in p n c a b final f w (by omega) (by omega) (by omega) h1 h2 hT h5

set_option maxRecDepth 100000 in
theorem fnLineTakesExactlyOneLine_lifted (os : Os) (started : os.Started) (H : Type) (enc : TypeId × Value → H) :
    ReturnsInHanded {} Tryd.checked os 4 .any (fun w args => (Rows.fnLineTakesExactlyOneLineSpec.pre enc Tryd.prog Tryd.f4 [] false w args ∧ laidMetH Tryd.prog Rows.fnLineTakesExactlyOneLineRow.laid w) ∧ sizedMet enc Tryd.prog Tryd.f4 (OpenSpec.ofChange Rows.fnLineTakesExactlyOneLineSpec) false w args)
      (Rows.fnLineTakesExactlyOneLineSpec.post enc Tryd.prog Tryd.f4 false true false false) := by
  refine wrap (C := Tryd.checked) (X := fun w _ => laidMetH Tryd.prog Rows.fnLineTakesExactlyOneLineRow.laid w) (fun _ _ _ hh h => h.of_heap hh) own started (by kernel_rfl) Tryd.func4
    (ChangeSpec.witness_shaped (enc := enc) (C := Tryd.checked) (os := os) (X := fun w _ => laidMetH Tryd.prog Rows.fnLineTakesExactlyOneLineRow.laid w) false (layFirst (World.doorLaid Tryd.prog 19 os)) #[.slice none 0 0, .int .i64 0, .int .i64 0, .bool false] 8 rfl
      (World.shaped_of_RefB (by kernel_rfl) (by kernel_rfl)) (by kernel_rfl) (by kernel_rfl) (by kernel_rfl) (door_met os _)) ?_
  intro W base args ds gs before hval0 hW hL hsh
  have hval : ∀ (j : Nat) t v, Tryd.f4.params[j]? = some t → args[j]? = some v → Value.okWide Tryd.prog W .any base t v := hval0
  have hW' := hW
  obtain ⟨p, q, hA0, hV, rfl, hfz, hnd⟩ := hW
  have hA : DataW.TrodAll enc Tryd.prog W 0 (fun _ => true) true Tryd.f4.params.toList args.toList ds p := hA0
  rw [Tryd.params4] at hA hval
  obtain ⟨v0, vs0, d0, ds0, p0, q0, hargs, rfl, rfl, h0, r0⟩ := trodAll_cons hA
  obtain ⟨v1, vs1, d1, ds1, p1, q1, rfl, rfl, rfl, h1, r1⟩ := trodAll_cons r0
  obtain ⟨v2, vs2, d2, ds2, p2, q2, rfl, rfl, rfl, h2, r2⟩ := trodAll_cons r1
  obtain ⟨v3, vs3, d3, ds3, p3, q3, rfl, rfl, rfl, h3, r3⟩ := trodAll_cons r2
  obtain ⟨rfl, rfl, rfl⟩ := trodAll_nil r3
  obtain rfl : args = #[v0, v1, v2, v3] := by cases args; simp_all
  obtain ⟨rfl, rfl⟩ := trodVars_none hV
  obtain ⟨a0, len0, cap0, rfl⟩ := okWide_slice Tryd.underlying22 (hval 0 22 v0 rfl rfl)
  have lt0 : ∀ x ∈ p0, x.block < W.heap.size := by obtain ⟨m, hm⟩ := h0; exact DataW.trod_lt m _ _ _ hm
  obtain ⟨f, hc⟩ := came_of h0
  obtain ⟨a1, rfl, rfl, rfl, w1⟩ := open_int Tryd.underlying3 (hval 1 3 v1 rfl rfl) h1
  obtain ⟨a2, rfl, rfl, rfl, w2⟩ := open_int Tryd.underlying3 (hval 2 3 v2 rfl rfl) h2
  obtain ⟨a3, rfl, rfl, rfl⟩ := open_bool Tryd.underlying4 (hval 3 4 v3 rfl rfl) h3
  clear hA0 hval0
  refine (one_walk a0 len0 cap0 f a1 a2 a3 W hc (tabs_of hL hsh)).mono fun e W' ⟨he, bel⟩ => ?_
  subst he
  exact ⟨_, rfl, _, _, _, [], _, [], hW', trodAll_mk1 (shut_bool Tryd.underlying4 _), (trodAll_cons_mk (Below.trod laidOut (by kernel_rfl) (of_decide_eq_true (by kernel_rfl)) h0 bel lt0) (trodAll_cons_mk (shut_int Tryd.underlying3 w1) (trodAll_cons_mk (shut_int Tryd.underlying3 w2) (trodAll_cons_mk (shut_bool Tryd.underlying4 _) trodAll_mk0)))), rfl, bel.frame _, fun h => by cases h⟩

theorem fnLineTakesExactlyOneLine_holds : Rows.FnLineTakesExactlyOneLineSaid :=
  OpenClaim.holds_of_wide 4 Tryd.f4 rfl rfl rfl rfl rfl rfl rfl ⟨rfl, rfl, rfl, rfl, rfl⟩ rfl rfl rfl rfl rfl (by kernel_rfl) Tryd.func4 (by kernel_rfl)
    (of_decide_eq_true (by kernel_rfl)) (by unfold Func.isWrapper; first | (rw [if_pos (by decide +kernel)]; kernel_rfl) | (rw [if_neg (by decide +kernel)]; exact ⟨rfl, rfl⟩))
    (fun os started H enc _ => fnLineTakesExactlyOneLine_lifted os started H enc)

/-- THE TIED CARD. -/
theorem fnLineTakesExactlyOneLine_card : Rows.FnLineTakesExactlyOneLineCardSaid :=
  Claim7.holds_tied_plain_at .later [] [.data, .pinned] true Rows.fnLineTakesExactlyOneLineCard.stood.harness false
    fnLineTakesExactlyOneLine_holds (fun _ h => by cases h) (by kernel_rfl) (fun _ h => by cases h) fnLineTakesExactlyOneLine_row_tie rfl ⟨rfl, rfl⟩ (by kernel_rfl) rfl
    (fun f fn hf hfn => by
      obtain rfl : f = 4 := Option.some.inj ((show Tryd.prog.funcNamed Rows.fnLineTakesExactlyOneLineRow.func = some 4 by kernel_rfl).symm.trans hf) |>.symm
      obtain rfl : fn = Tryd.f4 := (Option.some.inj (Tryd.func4.symm.trans hfn)).symm
      exact ⟨by kernel_rfl, fun j t ht => by
        rw [Tryd.params4] at ht
        have hm : t ∈ [22, 3, 3, 4] := by simpa using Array.mem_of_getElem? ht
        have hall : ([22, 3, 3, 4].all fun u => !Tryd.prog.wantsStandIn u) = true := by kernel_rfl
        exact (show Tryd.prog.wantsStandIn t = false by simpa using List.all_eq_true.1 hall t hm)⟩)
    (by kernel_rfl)
#print axioms fnLineTakesExactlyOneLine_card
end Go.Proofs.Qxb6000583aDoor
