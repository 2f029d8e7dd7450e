/-
  The row's wrap with both what the row lists ('laid') and the world's shape handed to the contract; what the listed tables give a walk; the witness's world.
-/
import Derived.Test.Qxb6000583aDoorRows
import Derived.Test.Qxb6000583aDoorTabs
import Derived.ProofKit
import Derived.LaidMore
import Derived.Lib.LaidU8T
import Derived.Shelf.Vars
namespace Go.Proofs.Qxb6000583aDoor
open Go.ChangeShapes Go.WideShapes Go.ChangeAt Go.RowKit

/-- 'returnsInHanded_of_change_and' with the world's shape kept for the contract. -/
theorem wrap {H : Type} {enc : TypeId × Value → H} {a : Assume} {C : Checked} {os : Os} {f : FuncId} {fn : Func} {s : ChangeSpec} {conds : List PathCond} {apart fresh handsOn again : Bool} {X : World → Array Value → Prop}
    (hX : ∀ (w w' : World) (args : Array Value), w.heap = w'.heap → X w args → X w' args)
    (own : ownKnob C.prog.godebug = none) (started : os.Started) (noInit : C.prog.inits.idxOf? f = none) (hfn : C.prog.funcs[f]? = some fn)
    (witness : ∃ (w : World) (tape : Tape) (i : Input), w.os = os ∧ (w.forCall tape i).Shaped C.prog ∧ i.vars = [] ∧ Input.okWide C.prog (w.forCall tape i) .any w.heap.size f i ∧
      ((s.pre enc C.prog fn conds apart (w.forCall tape i).memory i.args ∧ X (w.forCall tape i).memory i.args) ∧ sizedMet enc C.prog fn (OpenSpec.ofChange s) apart (w.forCall tape i).memory i.args) ∧ a.holds C.prog (lone (Frame.enter C.prog f i.args .normal) [] (w.forCall tape i)))
    (contract : ∀ (W : World) (base : Nat) (args : Array Value) (ds gs : List (DataW H)) (before : List MemPlace),
      (∀ (j : Nat) t v, fn.params[j]? = some t → args[j]? = some v → Value.okWide C.prog W .any base t v) →
      DataW.Whole enc C.prog fn.params.toList s.vars apart W args.toList ds gs before → X W args → W.ShapedOpen C.prog →
      Calls C.prog f args W fun e W' => ∃ v, e = .returned v ∧ s.post enc C.prog fn apart fresh handsOn again W args v W') :
    ReturnsInHanded a C os f .any (fun w args => (s.pre enc C.prog fn conds apart w args ∧ X w args) ∧ sizedMet enc C.prog fn (OpenSpec.ofChange s) apart w args) (s.post enc C.prog fn apart fresh handsOn again) := by
  refine returnsInHanded_of_calls own started noInit witness ?_
  intro w tape i _ hsh _ hok hpre _
  obtain ⟨_, _, _, fn', hfn', _, _, _, _, hval⟩ := hok
  obtain rfl : fn' = fn := Option.some.inj (hfn'.symm.trans hfn)
  obtain ⟨⟨⟨ds, gs, before, hw, _⟩, hx⟩, _⟩ := hpre
  refine (contract (w.forCall tape i) w.heap.size i.args ds gs before hval (DataW.Whole.of_heap (w' := w.forCall tape i) (by rfl) hw) (hX _ _ _ (by rfl) hx) hsh).mono fun e W' ⟨v, he, hp⟩ => ?_
  subst he
  exact ChangeSpec.post_blind hp

theorem own : ownKnob Tryd.prog.godebug = none := by kernel_rfl
theorem laidOut : laidOutB Tryd.prog = true := by kernel_rfl

def u8ren : Go.Shelf.Ren := ⟨fun n => n, fun | 119 => 60 | 138 => 62 | 139 => 63 | n => n, fun | 3 => 1 | 4 => 2 | n => n⟩
theorem u8types : U8Types Tryd.prog u8ren := { t5 := Tryd.underlying5, t119 := Tryd.underlying60, t138 := Tryd.underlying62, t139 := Tryd.underlying63 }
theorem u8extra : U8Extra Tryd.prog u8ren := { n3 := by kernel_rfl, n4 := by kernel_rfl, y3 := by kernel_rfl, y4 := by kernel_rfl, c5 := by kernel_rfl, c119 := by kernel_rfl, c138 := by kernel_rfl }
theorem first_eq : Rows.laid_unicode_utf8_first = Lib.firstData := by kernel_rfl
theorem accept_eq : Rows.laid_unicode_utf8_acceptRanges (H := Unit) = Lib.acceptData := by kernel_rfl

/-- What the two rows' lists give: the library's tables; and its MaxLen holds some int, by the world's shape. -/
theorem tabs_of {W : World} (h : laidMetH Tryd.prog Rows.fnLineTakesExactlyOneLineRow.laid W) (hsh : W.ShapedOpen Tryd.prog) : Tabs W := by
  rw [MakeChecks.laidMetH_plain _ _ _ (by kernel_rfl)] at h
  have h4 := Lib.laidMet.reads h (List.Mem.head _)
  have h3 := Lib.laidMet.reads h (List.Mem.tail _ (List.Mem.head _))
  rw [accept_eq] at h4
  rw [first_eq] at h3
  refine ⟨utf8Tabs_of_readsT u8types u8extra h3 h4, ?_⟩
  exact cell_of_shapedOpen_int hsh (g := 0) (t := 3) (zero := #[.int .i64 0]) (k := .i64) (of_decide_eq_true (by kernel_rfl)) (by kernel_rfl) rfl (by kernel_rfl) (by kernel_rfl) Tryd.underlying3

/-- A world with the table laid in it. -/
def layFirst (w : World) : World := { w with heap := w.heap.setIfInBounds 1 (.cells (Pinned.utf8FirstZ.map fun (n : Nat) => Value.int .u8 n).toArray 60) }

theorem door_met (os : Os) (args : Array Value) : laidMetH Tryd.prog Rows.fnLineTakesExactlyOneLineRow.laid ((layFirst (World.doorLaid Tryd.prog 19 os)).forCall (fun _ _ => 0) ⟨#[], args, []⟩).memory :=
  laidMetH_of_parts3 (fuel := 8) (laidMet_of_run' 8 (by kernel_rfl) (by kernel_rfl)) (by kernel_rfl) (by kernel_rfl)

end Go.Proofs.Qxb6000583aDoor
