/-
  THE TIED CARD OF FnAllowedByAgreesWithPlainScan, PROVED.
-/
import Derived.Test.Qxb6000393aDoorCards
import Derived.Test.Qxb6000393aDoorTie
import Derived.Test.Qxb6000393aDoorWrap
import Derived.OpenShut
import Derived.SevenTiedAt
namespace Go.Proofs.Qxb6000393aDoor
open Go.ChangeShapes Go.WideShapes Go.ChangeAt Go.RowKit

set_option maxRecDepth 100000 in
theorem fnAllowedByAgreesWithPlainScan_lifted (os : Os) (started : os.Started) (H : Type) (enc : TypeId × Value → H) :
    ReturnsInHanded {} Tryd.checked os 6 .any (fun w args => (Rows.fnAllowedByAgreesWithPlainScanSpec.pre enc Tryd.prog Tryd.f6 [] false w args ∧ laidMetH Tryd.prog Rows.fnAllowedByAgreesWithPlainScanRow.laid w) ∧ sizedMet enc Tryd.prog Tryd.f6 (OpenSpec.ofChange Rows.fnAllowedByAgreesWithPlainScanSpec) false w args)
      (Rows.fnAllowedByAgreesWithPlainScanSpec.post enc Tryd.prog Tryd.f6 false true false false) := by
  refine wrap (C := Tryd.checked) (X := fun w _ => laidMetH Tryd.prog Rows.fnAllowedByAgreesWithPlainScanRow.laid w) own started (by kernel_rfl) Tryd.func6
    (ChangeSpec.witness_shaped (enc := enc) (C := Tryd.checked) (os := os) (X := fun w _ => laidMetH Tryd.prog Rows.fnAllowedByAgreesWithPlainScanRow.laid w) false (layFirst (World.doorLaid Tryd.prog 19 os)) #[.slice none 0 0, .string ⟨#[]⟩, .slice none 0 0] 8 rfl
      (World.shaped_of_RefB (by kernel_rfl) (by kernel_rfl)) (by kernel_rfl) (by kernel_rfl) (by kernel_rfl) (door_met os _)) ?_
  intro W base args ds gs before hval0 hW hsh
  have hval : ∀ (j : Nat) t v, Tryd.f6.params[j]? = some t → args[j]? = some v → Value.okWide Tryd.prog W .any base t v := hval0
  have hW' := hW
  obtain ⟨p, q, hA0, hV, rfl, hfz, hnd⟩ := hW
  have hA : DataW.TrodAll enc Tryd.prog W 0 (fun _ => true) true Tryd.f6.params.toList args.toList ds p := hA0
  rw [Tryd.params6] at hA hval
  obtain ⟨v0, vs0, d0, ds0, p0, q0, hargs, rfl, rfl, h0, r0⟩ := trodAll_cons hA
  obtain ⟨v1, vs1, d1, ds1, p1, q1, rfl, rfl, rfl, h1, r1⟩ := trodAll_cons r0
  obtain ⟨v2, vs2, d2, ds2, p2, q2, rfl, rfl, rfl, h2, r2⟩ := trodAll_cons r1
  obtain ⟨rfl, rfl, rfl⟩ := trodAll_nil r2
  obtain rfl : args = #[v0, v1, v2] := by cases args; simp_all
  obtain ⟨rfl, rfl⟩ := trodVars_none hV
  obtain ⟨a0, len0, cap0, rfl⟩ := okWide_slice Tryd.underlying26 (hval 0 26 v0 rfl rfl)
  obtain ⟨s, rfl⟩ := okWide_string Tryd.underlying9 (hval 1 9 v1 rfl rfl)
  have hsz : s.data.toList.length ≤ 9223372036854775807 := by
    obtain ⟨fuel, hf⟩ := h1
    obtain ⟨s', hs, _, hsz⟩ := DataW.trod_string Tryd.underlying9 hf
    simp [Value.cells] at hs
    subst hs
    exact hsz
  obtain ⟨a2, len2, cap2, rfl⟩ := okWide_slice Tryd.underlying27 (hval 2 27 v2 rfl rfl)
  have lt0 : ∀ x ∈ p0, x.block < W.heap.size := by obtain ⟨m, hm⟩ := h0; exact DataW.trod_lt m _ _ _ hm
  have lt1 : ∀ x ∈ p1, x.block < W.heap.size := by obtain ⟨m, hm⟩ := h1; exact DataW.trod_lt m _ _ _ hm
  have lt2 : ∀ x ∈ p2, x.block < W.heap.size := by obtain ⟨m, hm⟩ := h2; exact DataW.trod_lt m _ _ _ hm
  obtain ⟨Z, hZ, nZ, pZ, bZ⟩ := zs_of ⟨a0, len0, cap0, rfl⟩ h0
  obtain ⟨L, hL, nL⟩ : ∃ L, Strs W (.slice a2 len2 cap2) L ∧ L.length ≤ 9223372036854775807 := by
    obtain ⟨fuel, hf⟩ := h2
    exact strs_of hf
  clear hA0 hval0
  refine (main6 (.slice a0 len0 cap0) (.slice a2 len2 cap2) Z s.data.toList L W nZ nL hsz bZ pZ (max_of hsh) hZ hL).mono fun e W' ⟨he, bel⟩ => ?_
  subst he
  exact ⟨_, rfl, _, _, _, [], _, [], hW', trodAll_mk1 (shut_bool Tryd.underlying4 _), (trodAll_cons_mk (Below.trod laidOut (by kernel_rfl) (of_decide_eq_true (by kernel_rfl)) h0 bel lt0) (trodAll_cons_mk (Below.trod laidOut (by kernel_rfl) (of_decide_eq_true (by kernel_rfl)) h1 bel lt1) (trodAll_cons_mk (Below.trod laidOut (by kernel_rfl) (of_decide_eq_true (by kernel_rfl)) h2 bel lt2) trodAll_mk0))), rfl, bel.frame _, fun h => by cases h⟩

theorem fnAllowedByAgreesWithPlainScan_holds : Rows.FnAllowedByAgreesWithPlainScanSaid :=
  OpenClaim.holds_of_wide 6 Tryd.f6 rfl rfl rfl rfl rfl rfl rfl ⟨rfl, rfl, rfl, rfl, rfl⟩ rfl rfl rfl rfl rfl (by kernel_rfl) Tryd.func6 (by kernel_rfl)
    (of_decide_eq_true (by kernel_rfl)) (by unfold Func.isWrapper; first | (rw [if_pos (by decide +kernel)]; kernel_rfl) | (rw [if_neg (by decide +kernel)]; exact ⟨rfl, rfl⟩))
    (fun os started H enc _ => fnAllowedByAgreesWithPlainScan_lifted os started H enc)

/-- THE TIED CARD. -/
theorem fnAllowedByAgreesWithPlainScan_card : Rows.FnAllowedByAgreesWithPlainScanCardSaid :=
  Claim7.holds_tied_plain_at .later [] [.data, .pinned] true Rows.fnAllowedByAgreesWithPlainScanCard.stood.harness false
    fnAllowedByAgreesWithPlainScan_holds (fun _ h => by cases h) (by kernel_rfl) (fun _ h => by cases h) fnAllowedByAgreesWithPlainScan_row_tie rfl ⟨rfl, rfl⟩ (by kernel_rfl) rfl
    (fun f fn hf hfn => by
      obtain rfl : f = 6 := Option.some.inj ((show Tryd.prog.funcNamed Rows.fnAllowedByAgreesWithPlainScanRow.func = some 6 by kernel_rfl).symm.trans hf) |>.symm
      obtain rfl : fn = Tryd.f6 := (Option.some.inj (Tryd.func6.symm.trans hfn)).symm
      exact ⟨by kernel_rfl, fun j t ht => by
        rw [Tryd.params6] at ht
        have hm : t ∈ [26, 9, 27] := by simpa using Array.mem_of_getElem? ht
        have hall : ([26, 9, 27].all fun u => !Tryd.prog.wantsStandIn u) = true := by kernel_rfl
        exact (show Tryd.prog.wantsStandIn t = false by simpa using List.all_eq_true.1 hall t hm)⟩)
    (by kernel_rfl)
end Go.Proofs.Qxb6000393aDoor
