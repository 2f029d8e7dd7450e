/-
  The row's wrap with what the row lists and the world's shape handed to the contract; what the walk is told of the slices that come in; the witness's world.
-/
import Derived.Test.Qxb6000393aDoorRows
import Derived.Test.Qxb6000393aDoorMain
import Derived.ProofKit
import Derived.LaidMore
import Derived.Shelf.Vars
import Derived.OpenShut
import Derived.Deep.Strs
import Derived.Deep.Slices
namespace Go.Proofs.Qxb6000393aDoor
open Go.ChangeShapes Go.WideShapes Go.ChangeAt Go.RowKit

/-- 'returnsInHanded_of_change_and' with the world's shape kept for the contract. -/
theorem wrap {H : Type} {enc : TypeId × Value → H} {a : Assume} {C : Checked} {os : Os} {f : FuncId} {fn : Func} {s : ChangeSpec} {conds : List PathCond} {apart fresh handsOn again : Bool} {X : World → Array Value → Prop}
    (own : ownKnob C.prog.godebug = none) (started : os.Started) (noInit : C.prog.inits.idxOf? f = none) (hfn : C.prog.funcs[f]? = some fn)
    (witness : ∃ (w : World) (tape : Tape) (i : Input), w.os = os ∧ (w.forCall tape i).Shaped C.prog ∧ i.vars = [] ∧ Input.okWide C.prog (w.forCall tape i) .any w.heap.size f i ∧
      ((s.pre enc C.prog fn conds apart (w.forCall tape i).memory i.args ∧ X (w.forCall tape i).memory i.args) ∧ sizedMet enc C.prog fn (OpenSpec.ofChange s) apart (w.forCall tape i).memory i.args) ∧ a.holds C.prog (lone (Frame.enter C.prog f i.args .normal) [] (w.forCall tape i)))
    (contract : ∀ (W : World) (base : Nat) (args : Array Value) (ds gs : List (DataW H)) (before : List MemPlace),
      (∀ (j : Nat) t v, fn.params[j]? = some t → args[j]? = some v → Value.okWide C.prog W .any base t v) →
      DataW.Whole enc C.prog fn.params.toList s.vars apart W args.toList ds gs before → W.ShapedOpen C.prog →
      Calls C.prog f args W fun e W' => ∃ v, e = .returned v ∧ s.post enc C.prog fn apart fresh handsOn again W args v W') :
    ReturnsInHanded a C os f .any (fun w args => (s.pre enc C.prog fn conds apart w args ∧ X w args) ∧ sizedMet enc C.prog fn (OpenSpec.ofChange s) apart w args) (s.post enc C.prog fn apart fresh handsOn again) := by
  refine returnsInHanded_of_calls own started noInit witness ?_
  intro w tape i _ hsh _ hok hpre _
  obtain ⟨_, _, _, fn', hfn', _, _, _, _, hval⟩ := hok
  obtain rfl : fn' = fn := Option.some.inj (hfn'.symm.trans hfn)
  obtain ⟨⟨⟨ds, gs, before, hw, _⟩, hx⟩, _⟩ := hpre
  refine (contract (w.forCall tape i) w.heap.size i.args ds gs before hval (DataW.Whole.of_heap (w' := w.forCall tape i) (by rfl) hw) hsh).mono fun e W' ⟨v, he, hp⟩ => ?_
  subst he
  exact ChangeSpec.post_blind hp

theorem own : ownKnob Tryd.prog.godebug = none := by kernel_rfl
theorem laidOut : laidOutB Tryd.prog = true := by kernel_rfl

/-- The library's MaxLen holds some int, by the world's shape. -/
theorem max_of {W : World} (hsh : W.ShapedOpen Tryd.prog) : HasMax W :=
  cell_of_shapedOpen_int hsh (g := 0) (t := 3) (zero := #[.int .i64 0]) (k := .i64) (of_decide_eq_true (by kernel_rfl)) (by kernel_rfl) rfl (by kernel_rfl) (by kernel_rfl) Tryd.underlying3

/-- A world with the table laid in it. -/
def layFirst (w : World) : World := { w with heap := w.heap.setIfInBounds 1 (.cells (Pinned.utf8FirstZ.map fun (n : Nat) => Value.int .u8 n).toArray 83) }

theorem door_met (os : Os) (args : Array Value) : laidMetH Tryd.prog Rows.fnAllowedByAgreesWithPlainScanRow.laid ((layFirst (World.doorLaid Tryd.prog 19 os)).forCall (fun _ _ => 0) ⟨#[], args, []⟩).memory :=
  laidMetH_of_parts3 (fuel := 8) (laidMet_of_run' 8 (by kernel_rfl) (by kernel_rfl)) (by kernel_rfl) (by kernel_rfl)

theorem seg_at {w : World} {a : Addr} {n : Nat} {F : Nat → Value} (h : ∀ i, i < n → w.cell? (a.add i) = some (F i)) : SegV w (some a) n F := fun h0 => by
  obtain ⟨b, o, spot⟩ := a
  have hspot : spot = none := by simpa [Addr.add] using World.cell?_spot (h 0 h0)
  subst hspot
  exact ⟨b, o, rfl, fun j hj => by rw [← add_pl]; exact h j hj⟩

/-- A slice of strings that came in. -/
theorem strs_of {H : Type} {enc : TypeId × Value → H} {W : World} {fuel : Nat} {v : Value} {x : DataW H × List MemPlace}
    (h : DataW.trod enc Tryd.prog W 0 (fun _ => true) true fuel 27 [v] = some x) : ∃ L, Strs W v L ∧ L.length ≤ 9223372036854775807 := by
  rcases Go.Deep.open_strs Tryd.underlying27 Tryd.underlying9 (by kernel_rfl) h with ⟨hcs, _⟩ | ⟨a, l, c, m, Sx, hcs, _, hl, hm, hmm, _, hcell⟩
  · simp at hcs
    exact ⟨[], ⟨none, 0, hcs, SegV.zero _ _ _⟩, Nat.zero_le _⟩
  · simp at hcs
    simp only [if_true] at hmm
    subst hmm
    refine ⟨(List.range l).map fun j => (Sx j).data.toList, ⟨some a, m, by simpa using hcs, ?_⟩, by rw [List.length_map, List.length_range]; exact Nat.le_trans hl hm⟩
    rw [List.length_map, List.length_range]
    refine seg_at fun i hi => ?_
    have e : ((List.range l).map fun j => (Sx j).data.toList)[i]?.getD [] = (Sx i).data.toList := by simp [hi]
    rw [e]
    exact (hcell i (by omega)).1

/-- One statement that came in. -/
theorem zat_of {H : Type} {enc : TypeId × Value → H} {W : World} {fuel : Nat} {a : Addr} {cs : List Value} {x : DataW H × List MemPlace} (hc : W.cells? 0 a 4 = some cs)
    (h : DataW.trod enc Tryd.prog W 0 (fun _ => true) true fuel 40 cs = some x) : ∃ z : ZS, ZAt W a.block a.off z ∧ a.spot = none ∧ z.2.2.2 < 256 ∧ z.2.1.length ≤ 9223372036854775807 ∧ z.2.2.1.length ≤ 9223372036854775807 := by
  obtain ⟨_, hlen, hcell⟩ := World.cells?_some hc
  obtain ⟨xs, n, _, _, _, hxl, hf⟩ := DataW.trod_struct Tryd.underlying40 h
  have cc3 : Tryd.prog.cellsOf 3 = 1 := by kernel_rfl
  have cc27 : Tryd.prog.cellsOf 27 = 1 := by kernel_rfl
  have cc5 : Tryd.prog.cellsOf 5 = 1 := by kernel_rfl
  match xs, hxl, cs, hlen with
  | [y0, y1, y2, y3], _, [v0, v1, v2, v3], _ =>
    have g0 := hf 0 _ rfl
    have g1 := hf 1 _ rfl
    have g2 := hf 2 _ rfl
    have g3 := hf 3 _ rfl
    simp [cc3, cc27, cc5] at g0 g1 g2 g3
    obtain ⟨e, he, _⟩ := DataW.trod_int Tryd.underlying3 g0
    obtain ⟨p, hp, _, hwf⟩ := DataW.trod_int Tryd.underlying5 g3
    obtain ⟨A, hA, hAl⟩ := strs_of g1
    obtain ⟨R, hR, hRl⟩ := strs_of g2
    simp at he hp
    subst he hp
    have hwf : 0 ≤ p ∧ p ≤ 255 := by simpa [Lit.wf, IntKind.min, IntKind.max, IntKind.bits, IntKind.signed] using hwf
    have c0 := hcell 0 (by decide)
    have c1 := hcell 1 (by decide)
    have c2 := hcell 2 (by decide)
    have c3 := hcell 3 (by decide)
    obtain ⟨b, o, spot⟩ := a
    have hspot : spot = none := by simpa [Addr.add] using World.cell?_spot c0
    subst hspot
    rw [add_pl] at c0 c1 c2 c3
    refine ⟨(e, A, R, p.toNat), ⟨v1, v2, c0, c1, c2, ?_, hA, hR⟩, rfl, ?_, hAl, hRl⟩
    · rw [c3]
      have : ((p.toNat : Nat) : Int) = p := Int.toNat_of_nonneg hwf.1
      simp [this]
    · show p.toNat < 256
      omega

/-- The slice of statements that came in. -/
theorem zs_of {H : Type} {enc : TypeId × Value → H} {W : World} {v : Value} {d : DataW H} {ps : List MemPlace} (hv : ∃ a l c, v = .slice a l c)
    (h : DataW.Trod enc Tryd.prog W 0 (fun _ => true) true 26 v d ps) : ∃ Z : List ZS, Zs W v Z ∧ Z.length ≤ 9223372036854775807 ∧ (∀ z ∈ Z, z.2.2.2 < 256) ∧ ∀ j, j < Z.length → (Z[j]?.getD z0).2.1.length ≤ 9223372036854775807 ∧ (Z[j]?.getD z0).2.2.1.length ≤ 9223372036854775807 := by
  obtain ⟨fuel, hf⟩ := h
  obtain ⟨a0, l0, c0, rfl⟩ := hv
  have cc40 : Tryd.prog.cellsOf 40 = 4 := by kernel_rfl
  rcases Go.Deep.open_slice Tryd.underlying26 hf with ⟨hcs, _⟩ | ⟨a, l, c, m, n, D, Pl, hcs, _, hl, hm, hmm, _, hx⟩
  · simp [Value.cells] at hcs
    obtain ⟨rfl, rfl, rfl⟩ := hcs
    exact ⟨[], ⟨none, 0, rfl, fun h => absurd h (Nat.lt_irrefl 0)⟩, Nat.zero_le _, fun z hz => absurd hz (by simp), fun j hj => absurd hj (Nat.not_lt_zero j)⟩
  · simp [Value.cells] at hcs
    obtain ⟨rfl, rfl, rfl⟩ := hcs
    simp only [if_true] at hmm
    subst hmm
    rw [cc40] at hx
    obtain ⟨q, hq⟩ := Go.Deep.choose_lt (α := ZS) (n := m) (p := fun i z => ZAt W (a.add (i * 4)).block (a.add (i * 4)).off z ∧ (a.add (i * 4)).spot = none ∧ z.2.2.2 < 256 ∧ z.2.1.length ≤ 9223372036854775807 ∧ z.2.2.1.length ≤ 9223372036854775807) (fun i hi => by
      obtain ⟨cs', h1, h2⟩ := hx i hi
      exact zat_of h1 h2)
    have hat : ∀ j, j < l0 → ((List.range l0).map q)[j]?.getD z0 = q j := fun j hj => by simp [hj]
    refine ⟨(List.range l0).map q, ⟨some a, m, by simp, fun h0 => ?_⟩, by rw [List.length_map, List.length_range]; exact Nat.le_trans hl hm, fun z hz => ?_, fun j hj => ?_⟩
    · rw [List.length_map, List.length_range] at h0
      have hs := (hq 0 (by omega)).2.1
      obtain ⟨b, o, spot⟩ := a
      have hspot : spot = none := by simpa [Addr.add] using hs
      subst hspot
      refine ⟨b, o, rfl, fun j hj => ?_⟩
      rw [List.length_map, List.length_range] at hj
      rw [hat j hj]
      have := (hq j (by omega)).1
      rw [add_pl] at this
      exact this
    · obtain ⟨j, hj, rfl⟩ := List.mem_map.1 hz
      exact (hq j (by have := List.mem_range.1 hj; omega)).2.2.1
    · rw [List.length_map, List.length_range] at hj
      rw [hat j hj]
      exact (hq j (by omega)).2.2.2

end Go.Proofs.Qxb6000393aDoor
