/-
  THE TIED CARD OF FnLineReassembles, PROVED.
-/
import Derived.Test.Qxb6000009aDoorFnLineSpec
import Derived.Test.Qxb6000009aDoorReas
import Derived.OpenShut
import Derived.SevenTiedAt
namespace Go.Proofs.Qxb6000009aDoor
open Go.ChangeShapes Go.WideShapes Go.ChangeAt Go.RowKit

theorem reas_walk (p : Option Addr) (n c : Nat) (f : Nat → Int) (w : World) (h : Came w p n c f) (hT : Tabs w) :
    Calls Tryd.prog 4 #[.slice p n c] w (TruePost w) := by
  obtain ⟨h1, h2, h3, h4, h5⟩ := h
  by_cases ho : 65536 < n
  · exact reas_out p n c w (Nat.le_trans h3 h4) ho
  · exact reas_in p n c f w (by omega) h1 h2 hT h5


set_option maxRecDepth 100000 in
theorem fnLineReassembles_lifted (os : Os) (started : os.Started) (H : Type) (enc : TypeId × Value → H) :
    ReturnsInHanded {} Tryd.checked os 4 .any (fun w args => (Rows.fnLineReassemblesSpec.pre enc Tryd.prog Tryd.f4 [] false w args ∧ laidMetH Tryd.prog Rows.fnLineReassemblesRow.laid w) ∧ sizedMet enc Tryd.prog Tryd.f4 (OpenSpec.ofChange Rows.fnLineReassemblesSpec) false w args)
      (Rows.fnLineReassemblesSpec.post enc Tryd.prog Tryd.f4 false true false false) := by
  refine wrap (C := Tryd.checked) (X := fun w _ => laidMetH Tryd.prog Rows.fnLineReassemblesRow.laid w) (fun _ _ _ hh h => h.of_heap hh) own started (by kernel_rfl) Tryd.func4
    (ChangeSpec.witness_shaped (enc := enc) (C := Tryd.checked) (os := os) (X := fun w _ => laidMetH Tryd.prog Rows.fnLineReassemblesRow.laid w) false (layFirst (World.doorLaid Tryd.prog 19 os)) #[.slice none 0 0] 8 rfl
      (World.shaped_of_RefB (by kernel_rfl) (by kernel_rfl)) (by kernel_rfl) (by kernel_rfl) (by kernel_rfl) (door_met os _)) ?_
  intro W base args ds gs before hval0 hW hL hsh
  have hval : ∀ (j : Nat) t v, Tryd.f4.params[j]? = some t → args[j]? = some v → Value.okWide Tryd.prog W .any base t v := hval0
  have hW' := hW
  obtain ⟨p, q, hA0, hV, rfl, hfz, hnd⟩ := hW
  have hA : DataW.TrodAll enc Tryd.prog W 0 (fun _ => true) true Tryd.f4.params.toList args.toList ds p := hA0
  rw [Tryd.params4] at hA hval
  obtain ⟨v0, vs0, d0, ds0, p0, q0, hargs, rfl, rfl, h0, r0⟩ := trodAll_cons hA
  obtain ⟨rfl, rfl, rfl⟩ := trodAll_nil r0
  obtain rfl : args = #[v0] := by cases args; simp_all
  obtain ⟨rfl, rfl⟩ := trodVars_none hV
  obtain ⟨a0, len0, cap0, rfl⟩ := okWide_slice Tryd.underlying22 (hval 0 22 v0 rfl rfl)
  have lt0 : ∀ x ∈ p0, x.block < W.heap.size := by obtain ⟨m, hm⟩ := h0; exact DataW.trod_lt m _ _ _ hm
  obtain ⟨f, hc⟩ := came_of h0
  clear hA0 hval0
  refine (reas_walk a0 len0 cap0 f W hc (tabs_of hL hsh)).mono fun e W' ⟨he, bel⟩ => ?_
  subst he
  exact ⟨_, rfl, _, _, _, [], _, [], hW', trodAll_mk1 (shut_bool Tryd.underlying4 _), (trodAll_cons_mk (Below.trod laidOut (by kernel_rfl) (of_decide_eq_true (by kernel_rfl)) h0 bel lt0) trodAll_mk0), rfl, bel.frame _, fun h => by cases h⟩

theorem fnLineReassembles_holds : Rows.FnLineReassemblesSaid :=
  OpenClaim.holds_of_wide 4 Tryd.f4 rfl rfl rfl rfl rfl rfl rfl ⟨rfl, rfl, rfl, rfl, rfl⟩ rfl rfl rfl rfl rfl (by kernel_rfl) Tryd.func4 (by kernel_rfl)
    (of_decide_eq_true (by kernel_rfl)) (by unfold Func.isWrapper; first | (rw [if_pos (by decide +kernel)]; kernel_rfl) | (rw [if_neg (by decide +kernel)]; exact ⟨rfl, rfl⟩))
    (fun os started H enc _ => fnLineReassembles_lifted os started H enc)

/-- THE TIED CARD. -/
theorem fnLineReassembles_card : Rows.FnLineReassemblesCardSaid :=
  Claim7.holds_tied_plain_at .later [] [.data, .pinned] true Rows.fnLineReassemblesCard.stood.harness false
    fnLineReassembles_holds (fun _ h => by cases h) (by kernel_rfl) (fun _ h => by cases h) fnLineReassembles_row_tie rfl ⟨rfl, rfl⟩ (by kernel_rfl) rfl
    (fun f fn hf hfn => by
      obtain rfl : f = 4 := Option.some.inj ((show Tryd.prog.funcNamed Rows.fnLineReassemblesRow.func = some 4 by kernel_rfl).symm.trans hf) |>.symm
      obtain rfl : fn = Tryd.f4 := (Option.some.inj (Tryd.func4.symm.trans hfn)).symm
      exact ⟨by kernel_rfl, fun j t ht => by
        rw [Tryd.params4] at ht
        have hm : t ∈ [22] := by simpa using Array.mem_of_getElem? ht
        have hall : ([22].all fun u => !Tryd.prog.wantsStandIn u) = true := by kernel_rfl
        exact (show Tryd.prog.wantsStandIn t = false by simpa using List.all_eq_true.1 hall t hm)⟩)
    (by kernel_rfl)
#print axioms fnLineReassembles_card
end Go.Proofs.Qxb6000009aDoor
