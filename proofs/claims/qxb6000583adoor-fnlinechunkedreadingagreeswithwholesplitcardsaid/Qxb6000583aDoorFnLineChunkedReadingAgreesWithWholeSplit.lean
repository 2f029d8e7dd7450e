/-
  THE TIED CARD OF FnLineChunkedReadingAgreesWithWholeSplit, PROVED.
-/
import Derived.Test.Qxb6000583aDoorCards
import Derived.Test.Qxb6000583aDoorTie
import Derived.Test.Qxb6000583aDoorCame
import Derived.Test.Qxb6000583aDoorChunk
import Derived.OpenShut
import Derived.SevenTiedAt
namespace Go.Proofs.Qxb6000583aDoor
open Go.ChangeShapes Go.WideShapes Go.ChangeAt Go.RowKit

/-- What a walk is told of a slice of ints that came in. -/
def CameI (w : World) (p : Option Addr) (n c : Nat) (f : Nat → Int) : Prop :=
  SegI w p n f ∧ (∀ j, j < n → -9223372036854775808 ≤ f j ∧ f j ≤ 9223372036854775807) ∧ n ≤ c ∧ c ≤ maxLen ∧ (p = none → n = 0 ∧ c = 0)

theorem cameI_of {H : Type} {enc : TypeId × Value → H} {W : World} {a0 : Option Addr} {len cap : Nat} {d0 : DataW H} {p0 : List MemPlace}
    (h0 : DataW.Trod enc Tryd.prog W 0 (fun _ => true) true 23 (.slice a0 len cap) d0 p0) : ∃ f, CameI W a0 len cap f := by
  obtain ⟨fuel, hf⟩ := h0
  rcases open_ints Tryd.underlying23 Tryd.underlying3 (by kernel_rfl) hf with ⟨hcs, _⟩ | ⟨x, l, c, zs, hcs, _, hl, hm, hz, _, hcell, hwz⟩
  · simp [Value.cells] at hcs
    obtain ⟨rfl, rfl, rfl⟩ := hcs
    exact ⟨fun _ => 0, fun h => absurd h (Nat.lt_irrefl 0), fun j h => absurd h (Nat.not_lt_zero j), Nat.le_refl _, Nat.zero_le _, fun _ => ⟨rfl, rfl⟩⟩
  · simp [Value.cells] at hcs
    obtain ⟨rfl, rfl, rfl⟩ := hcs
    have hz' : zs.length = cap := by simpa using hz
    refine ⟨fun j => zs.getD j 0, fun h => ?_, fun j hj => ?_, hl, hm, fun h => by cases h⟩
    · obtain ⟨b, off, e, hc⟩ := ints_at hcell (by omega)
      exact ⟨b, off, congrArg some e, fun j hj => hc j (by omega)⟩
    · have hm' : zs.getD j 0 ∈ zs := by
        have : j < zs.length := by omega
        simp [List.getD, this]
      have := hwz _ hm'
      simp [Lit.wf, IntKind.min, IntKind.max, IntKind.bits, IntKind.signed] at this
      exact ⟨this.1, this.2⟩

theorem chunk_walk (p p' : Option Addr) (n c k c' : Nat) (f g : Nat → Int) (w : World) (h : Came w p n c f) (h' : CameI w p' k c' g) (hT : Tabs w) :
    Calls Tryd.prog 3 #[.slice p n c, .slice p' k c'] w (TruePost w) := by
  obtain ⟨h1, h2, h3, h4, h5⟩ := h
  obtain ⟨k1, k2, k3, k4, k5⟩ := h'
  by_cases ho : 65536 < n ∨ (n ≤ 65536 ∧ 65536 < k)
  · exact chunk_out p p' n c k c' w (Nat.le_trans h3 h4) (Nat.le_trans k3 k4) ho
  · exact chunk_in p p' n c k c' f g w (by omega) (by omega) h1 h2 hT h5 k1 k2 k5

set_option maxRecDepth 100000 in
theorem fnLineChunkedReadingAgreesWithWholeSplit_lifted (os : Os) (started : os.Started) (H : Type) (enc : TypeId × Value → H) :
    ReturnsInHanded {} Tryd.checked os 3 .any (fun w args => (Rows.fnLineChunkedReadingAgreesWithWholeSplitSpec.pre enc Tryd.prog Tryd.f3 [] false w args ∧ laidMetH Tryd.prog Rows.fnLineChunkedReadingAgreesWithWholeSplitRow.laid w) ∧ sizedMet enc Tryd.prog Tryd.f3 (OpenSpec.ofChange Rows.fnLineChunkedReadingAgreesWithWholeSplitSpec) false w args)
      (Rows.fnLineChunkedReadingAgreesWithWholeSplitSpec.post enc Tryd.prog Tryd.f3 false true false false) := by
  refine wrap (C := Tryd.checked) (X := fun w _ => laidMetH Tryd.prog Rows.fnLineChunkedReadingAgreesWithWholeSplitRow.laid w) (fun _ _ _ hh h => h.of_heap hh) own started (by kernel_rfl) Tryd.func3
    (ChangeSpec.witness_shaped (enc := enc) (C := Tryd.checked) (os := os) (X := fun w _ => laidMetH Tryd.prog Rows.fnLineChunkedReadingAgreesWithWholeSplitRow.laid w) false (layFirst (World.doorLaid Tryd.prog 19 os)) #[.slice none 0 0, .slice none 0 0] 8 rfl
      (World.shaped_of_RefB (by kernel_rfl) (by kernel_rfl)) (by kernel_rfl) (by kernel_rfl) (by kernel_rfl) (door_met os _)) ?_
  intro W base args ds gs before hval0 hW hL hsh
  have hval : ∀ (j : Nat) t v, Tryd.f3.params[j]? = some t → args[j]? = some v → Value.okWide Tryd.prog W .any base t v := hval0
  have hW' := hW
  obtain ⟨p, q, hA0, hV, rfl, hfz, hnd⟩ := hW
  have hA : DataW.TrodAll enc Tryd.prog W 0 (fun _ => true) true Tryd.f3.params.toList args.toList ds p := hA0
  rw [Tryd.params3] at hA hval
  obtain ⟨v0, vs0, d0, ds0, p0, q0, hargs, rfl, rfl, h0, r0⟩ := trodAll_cons hA
  obtain ⟨v1, vs1, d1, ds1, p1, q1, rfl, rfl, rfl, h1, r1⟩ := trodAll_cons r0
  obtain ⟨rfl, rfl, rfl⟩ := trodAll_nil r1
  obtain rfl : args = #[v0, v1] := by cases args; simp_all
  obtain ⟨rfl, rfl⟩ := trodVars_none hV
  obtain ⟨a0, len0, cap0, rfl⟩ := okWide_slice Tryd.underlying22 (hval 0 22 v0 rfl rfl)
  obtain ⟨a1, len1, cap1, rfl⟩ := okWide_slice Tryd.underlying23 (hval 1 23 v1 rfl rfl)
  have lt0 : ∀ x ∈ p0, x.block < W.heap.size := by obtain ⟨m, hm⟩ := h0; exact DataW.trod_lt m _ _ _ hm
  have lt1 : ∀ x ∈ p1, x.block < W.heap.size := by obtain ⟨m, hm⟩ := h1; exact DataW.trod_lt m _ _ _ hm
  obtain ⟨f, hc⟩ := came_of h0
  obtain ⟨g, hcI⟩ := cameI_of h1
  clear hA0 hval0
  refine (chunk_walk a0 a1 len0 cap0 len1 cap1 f g W hc hcI (tabs_of hL hsh)).mono fun e W' ⟨he, bel⟩ => ?_
  subst he
  exact ⟨_, rfl, _, _, _, [], _, [], hW', trodAll_mk1 (shut_bool Tryd.underlying4 _), (trodAll_cons_mk (Below.trod laidOut (by kernel_rfl) (of_decide_eq_true (by kernel_rfl)) h0 bel lt0) (trodAll_cons_mk (Below.trod laidOut (by kernel_rfl) (of_decide_eq_true (by kernel_rfl)) h1 bel lt1) trodAll_mk0)), rfl, bel.frame _, fun h => by cases h⟩

theorem fnLineChunkedReadingAgreesWithWholeSplit_holds : Rows.FnLineChunkedReadingAgreesWithWholeSplitSaid :=
  OpenClaim.holds_of_wide 3 Tryd.f3 rfl rfl rfl rfl rfl rfl rfl ⟨rfl, rfl, rfl, rfl, rfl⟩ rfl rfl rfl rfl rfl (by kernel_rfl) Tryd.func3 (by kernel_rfl)
    (of_decide_eq_true (by kernel_rfl)) (by unfold Func.isWrapper; first | (rw [if_pos (by decide +kernel)]; kernel_rfl) | (rw [if_neg (by decide +kernel)]; exact ⟨rfl, rfl⟩))
    (fun os started H enc _ => fnLineChunkedReadingAgreesWithWholeSplit_lifted os started H enc)

/-- THE TIED CARD. -/
theorem fnLineChunkedReadingAgreesWithWholeSplit_card : Rows.FnLineChunkedReadingAgreesWithWholeSplitCardSaid :=
  Claim7.holds_tied_plain_at .later [] [.data, .pinned] true Rows.fnLineChunkedReadingAgreesWithWholeSplitCard.stood.harness false
    fnLineChunkedReadingAgreesWithWholeSplit_holds (fun _ h => by cases h) (by kernel_rfl) (fun _ h => by cases h) fnLineChunkedReadingAgreesWithWholeSplit_row_tie rfl ⟨rfl, rfl⟩ (by kernel_rfl) rfl
    (fun f fn hf hfn => by
      obtain rfl : f = 3 := Option.some.inj ((show Tryd.prog.funcNamed Rows.fnLineChunkedReadingAgreesWithWholeSplitRow.func = some 3 by kernel_rfl).symm.trans hf) |>.symm
      obtain rfl : fn = Tryd.f3 := (Option.some.inj (Tryd.func3.symm.trans hfn)).symm
      exact ⟨by kernel_rfl, fun j t ht => by
        rw [Tryd.params3] at ht
        have hm : t ∈ [22, 23] := by simpa using Array.mem_of_getElem? ht
        have hall : ([22, 23].all fun u => !Tryd.prog.wantsStandIn u) = true := by kernel_rfl
        exact (show Tryd.prog.wantsStandIn t = false by simpa using List.all_eq_true.1 hall t hm)⟩)
    (by kernel_rfl)
#print axioms fnLineChunkedReadingAgreesWithWholeSplit_card
end Go.Proofs.Qxb6000583aDoor
