/-
  The row's wrap; what the walk is told of the slices that come in; the witness's world.
-/
import Derived.Test.Qxb6000766aDoorRows
import Derived.Test.Qxb6000766aDoorTag
import Derived.ProofKit
import Derived.LaidMore
import Derived.Shelf.Vars
import Derived.OpenShut
import Derived.Deep.Strs
import Derived.Deep.Grids
namespace Go.Proofs.Qxb6000766aDoor
open Go.ChangeShapes Go.WideShapes Go.ChangeAt Go.RowKit

/-- 'returnsInHanded_of_change_and' in the form that is used here. -/
theorem wrap {H : Type} {enc : TypeId × Value → H} {a : Assume} {C : Checked} {os : Os} {f : FuncId} {fn : Func} {s : ChangeSpec} {conds : List PathCond} {apart fresh handsOn again : Bool} {X : World → Array Value → Prop}
    (own : ownKnob C.prog.godebug = none) (started : os.Started) (noInit : C.prog.inits.idxOf? f = none) (hfn : C.prog.funcs[f]? = some fn)
    (witness : ∃ (w : World) (tape : Tape) (i : Input), w.os = os ∧ (w.forCall tape i).Shaped C.prog ∧ i.vars = [] ∧ Input.okWide C.prog (w.forCall tape i) .any w.heap.size f i ∧
      ((s.pre enc C.prog fn conds apart (w.forCall tape i).memory i.args ∧ X (w.forCall tape i).memory i.args) ∧ sizedMet enc C.prog fn (OpenSpec.ofChange s) apart (w.forCall tape i).memory i.args) ∧ a.holds C.prog (lone (Frame.enter C.prog f i.args .normal) [] (w.forCall tape i)))
    (contract : ∀ (W : World) (base : Nat) (args : Array Value) (ds gs : List (DataW H)) (before : List MemPlace),
      (∀ (j : Nat) t v, fn.params[j]? = some t → args[j]? = some v → Value.okWide C.prog W .any base t v) →
      DataW.Whole enc C.prog fn.params.toList s.vars apart W args.toList ds gs before →
      Calls C.prog f args W fun e W' => ∃ v, e = .returned v ∧ s.post enc C.prog fn apart fresh handsOn again W args v W') :
    ReturnsInHanded a C os f .any (fun w args => (s.pre enc C.prog fn conds apart w args ∧ X w args) ∧ sizedMet enc C.prog fn (OpenSpec.ofChange s) apart w args) (s.post enc C.prog fn apart fresh handsOn again) := by
  refine returnsInHanded_of_calls own started noInit witness ?_
  intro w tape i _ hsh _ hok hpre _
  obtain ⟨_, _, _, fn', hfn', _, _, _, _, hval⟩ := hok
  obtain rfl : fn' = fn := Option.some.inj (hfn'.symm.trans hfn)
  obtain ⟨⟨⟨ds, gs, before, hw, _⟩, hx⟩, _⟩ := hpre
  refine (contract (w.forCall tape i) w.heap.size i.args ds gs before hval (DataW.Whole.of_heap (w' := w.forCall tape i) (by rfl) hw)).mono fun e W' ⟨v, he, hp⟩ => ?_
  subst he
  exact ChangeSpec.post_blind hp

theorem own : ownKnob Tryd.prog.godebug = none := by kernel_rfl
theorem laidOut : laidOutB Tryd.prog = true := by kernel_rfl

/-- A world with the table laid in it. -/
def layFirst (w : World) : World := { w with heap := w.heap.setIfInBounds 0 (.cells (Pinned.utf8FirstZ.map fun (n : Nat) => Value.int .u8 n).toArray 55) }

theorem door_met (os : Os) (args : Array Value) : laidMetH Tryd.prog Rows.fnEntityTagsRoundTripRow.laid ((layFirst (World.doorLaid Tryd.prog 19 os)).forCall (fun _ _ => 0) ⟨#[], args, []⟩).memory :=
  laidMetH_of_parts3 (fuel := 8) (laidMet_of_run' 8 (by kernel_rfl) (by kernel_rfl)) (by kernel_rfl) (by kernel_rfl)

/-- What the walk is told of a slice that came in. -/
def Came (w : World) (p : Option Addr) (n c : Nat) (F : Nat → Value) : Prop := SegV w p n F ∧ n ≤ 9223372036854775807 ∧ (p = none → n = 0 ∧ c = 0)

theorem came_nil (w : World) (F : Nat → Value) : Came w none 0 0 F := ⟨SegV.zero _ _ _, Nat.zero_le _, fun _ => ⟨rfl, rfl⟩⟩

theorem seg_at {w : World} {a : Addr} {n : Nat} {F : Nat → Value} (h : ∀ i, i < n → w.cell? (a.add i) = some (F i)) : SegV w (some a) n F := fun h0 => by
  obtain ⟨b, o, spot⟩ := a
  have hspot : spot = none := by simpa [Addr.add] using World.cell?_spot (h 0 h0)
  subst hspot
  exact ⟨b, o, rfl, fun j hj => by rw [← add_pl]; exact h j hj⟩

theorem cameS {H : Type} {enc : TypeId × Value → H} {W : World} {a0 : Option Addr} {len cap : Nat} {d0 : DataW H} {p0 : List MemPlace}
    (h0 : DataW.Trod enc Tryd.prog W 0 (fun _ => true) true 22 (.slice a0 len cap) d0 p0) : ∃ F : Nat → List UInt8, Came W a0 len cap (fun j => S (F j)) := by
  obtain ⟨fuel, hf⟩ := h0
  rcases Go.Deep.open_strs Tryd.underlying22 Tryd.underlying9 (by kernel_rfl) hf with ⟨hcs, _⟩ | ⟨a, l, c, m, Sx, hcs, _, hl, hm, hmm, _, hcell⟩
  · simp [Value.cells] at hcs
    obtain ⟨rfl, rfl, rfl⟩ := hcs
    exact ⟨fun _ => [], came_nil _ _⟩
  · simp [Value.cells] at hcs
    obtain ⟨rfl, rfl, rfl⟩ := hcs
    simp only [if_true] at hmm
    subst hmm
    exact ⟨fun j => (Sx j).data.toList, seg_at fun i hi => (hcell i (by omega)).1, Nat.le_trans hl hm, fun h => by cases h⟩

theorem cameB {H : Type} {enc : TypeId × Value → H} {W : World} {a0 : Option Addr} {len cap : Nat} {d0 : DataW H} {p0 : List MemPlace}
    (h0 : DataW.Trod enc Tryd.prog W 0 (fun _ => true) true 23 (.slice a0 len cap) d0 p0) : ∃ F : Nat → Bool, Came W a0 len cap (fun j => .bool (F j)) := by
  obtain ⟨fuel, hf⟩ := h0
  rcases Go.Deep.open_bools Tryd.underlying23 Tryd.underlying4 (by kernel_rfl) hf with ⟨hcs, _⟩ | ⟨a, l, c, B, hcs, _, hl, hm, _, hcell⟩
  · simp [Value.cells] at hcs
    obtain ⟨rfl, rfl, rfl⟩ := hcs
    exact ⟨fun _ => false, came_nil _ _⟩
  · simp [Value.cells] at hcs
    obtain ⟨rfl, rfl, rfl⟩ := hcs
    exact ⟨B, seg_at fun i hi => hcell i (by omega), Nat.le_trans hl hm, fun h => by cases h⟩

theorem cameY {H : Type} {enc : TypeId × Value → H} {W : World} {a0 : Option Addr} {len cap : Nat} {d0 : DataW H} {p0 : List MemPlace}
    (h0 : DataW.Trod enc Tryd.prog W 0 (fun _ => true) true 24 (.slice a0 len cap) d0 p0) : ∃ f : Nat → Int, Came W a0 len cap (fun j => .int .u8 (f j)) ∧ ∀ j, j < len → 0 ≤ f j ∧ f j ≤ 255 := by
  obtain ⟨fuel, hf⟩ := h0
  rcases open_ints Tryd.underlying24 Tryd.underlying5 (by kernel_rfl) hf with ⟨hcs, _⟩ | ⟨x, l, c, zs, hcs, _, hl, hm, hz, _, hcell, hwz⟩
  · simp [Value.cells] at hcs
    obtain ⟨rfl, rfl, rfl⟩ := hcs
    exact ⟨fun _ => 0, came_nil _ _, fun j h => absurd h (Nat.not_lt_zero j)⟩
  · simp [Value.cells] at hcs
    obtain ⟨rfl, rfl, rfl⟩ := hcs
    have hz' : zs.length = cap := by simpa using hz
    refine ⟨fun j => zs.getD j 0, ⟨fun h => ?_, Nat.le_trans hl hm, fun h => by cases h⟩, fun j hj => ?_⟩
    · obtain ⟨b, off, e, hc⟩ := ints_at hcell (by omega)
      exact ⟨b, off, congrArg some e, fun j hj => hc j (by omega)⟩
    · have hm' : zs.getD j 0 ∈ zs := by
        have : j < zs.length := by omega
        simp [List.getD, this]
      have := hwz _ hm'
      simp [Lit.wf, IntKind.min, IntKind.max, IntKind.bits, IntKind.signed] at this
      exact ⟨this.1, this.2⟩

end Go.Proofs.Qxb6000766aDoor
