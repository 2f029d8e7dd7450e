/-
  The loop over the runs of Match's middle: strings.SplitSeq's closure with the body's rounds in it.
-/
import Derived.Test.Qxb6000393aDoorMatch
namespace Go.Proofs.Qxb6000393aDoor
open Go.RowKit Go.Shelf
attribute [local go_sem] Oper.semAt_some

/-- What strings.SplitSeq leaves: three boxes. -/
def three (w : World) (mid : List UInt8) : World := ((w.alloc (.cells #[S mid] 9)).alloc (.cells #[.string ⟨#[42]⟩] 9)).alloc (.cells #[.int .i64 0] 3)

set_option maxRecDepth 100000 in
theorem seq_S (mid : List UInt8) (w : World) : Calls Tryd.prog 30 #[S mid, .string ⟨#[42]⟩] w fun e w' => e = .returned (.func (.func 47) #[] #[.pointer (some ⟨w.heap.size + 1, 0, none⟩), .pointer (some ⟨w.heap.size, 0, none⟩), .pointer (some ⟨w.heap.size + 1 + 1, 0, none⟩)]) ∧ w' = three w mid := by
  have cS := cells_S
  simp only [Value.cells] at cS
  go_enter Tryd.func30, Tryd.ntmps30
  go_wp2_with (go_at_call 41; go_in)
  go_ret
  exact ⟨rfl, rfl⟩

theorem match_retM {b : Bool} {w w' : World} {t0 t1 t2 t3 : Value} {ts : List Value} (hc : w'.cell? ⟨w.heap.size + 1, 0, none⟩ = some (.bool b)) (hB : Below w.heap.size w w') :
    bodyPostM Fence.wide 4 Tryd.prog Tryd.f10 (MatchPost b w) Exit.ret { tmps := (t0 :: t1 :: t2 :: t3 :: .pointer (some ⟨w.heap.size + 1, 0, none⟩) :: ts).toArray, defers := [] } w' :=
  ⟨.bool b, by simp [results, Tryd.results10, go_sem, hc], rfl, hB⟩

/-- The world ahead of the loop over the runs. -/
def MS (w : World) (mid nm : List UInt8) (W : World) : Prop :=
  W.heap[w.heap.size]? = some (.cells #[S nm] 9 (0, 0)) ∧ W.heap[w.heap.size + 1]? = some (.cells #[.bool false] 4 (0, 0)) ∧ W.heap[w.heap.size + 1 + 1]? = some (.cells #[S mid] 9 (0, 0)) ∧
  W.heap[w.heap.size + 1 + 1 + 1]? = some (.cells #[.string ⟨#[42]⟩] 9 (0, 0)) ∧ W.heap[w.heap.size + 1 + 1 + 1 + 1]? = some (.cells #[.int .i64 0] 3 (0, 0)) ∧ Below w.heap.size w W

theorem MS.start (w : World) (n nm n2 mid : List UInt8) (q : Nat) : MS w mid n2 (three (((((w.alloc (.cells #[S n] 9)).alloc (.cells #[.bool false] 4)).drewN q).setCell ⟨w.heap.size, 0, none⟩ (S nm)).setCell ⟨w.heap.size, 0, none⟩ (S n2)) mid) := by
  obtain ⟨X, hX⟩ : ∃ X, ((((w.alloc (.cells #[S n] 9)).alloc (.cells #[.bool false] 4)).drewN q).setCell ⟨w.heap.size, 0, none⟩ (S nm)).setCell ⟨w.heap.size, 0, none⟩ (S n2) = X := ⟨_, rfl⟩
  have hs : X.heap.size = w.heap.size + 1 + 1 := by rw [← hX]; simp
  have h0 : (((w.alloc (.cells #[S n] 9)).alloc (.cells #[.bool false] 4)).drewN q).heap[w.heap.size]? = some (.cells #[S n] 9 (0, 0)) := by
    show ((w.alloc (.cells #[S n] 9)).alloc (.cells #[.bool false] 4)).heap[w.heap.size]? = _
    rw [Below.heap_alloc _ _ _ (by simp)]
    exact heap_alloc_new w _
  have h1 : (((w.alloc (.cells #[S n] 9)).alloc (.cells #[.bool false] 4)).drewN q).heap[w.heap.size + 1]? = some (.cells #[.bool false] 4 (0, 0)) := by
    show ((w.alloc (.cells #[S n] 9)).alloc (.cells #[.bool false] 4)).heap[w.heap.size + 1]? = _
    have := heap_alloc_new (w.alloc (.cells #[S n] 9)) (.cells #[.bool false] 4)
    rwa [World.size_alloc] at this
  have x0 : X.heap[w.heap.size]? = some (.cells #[S n2] 9 (0, 0)) := by
    rw [← hX, heap_setCell_same _ _ _ _ _ _ (heap_setCell_same _ _ _ _ _ _ h0)]
    rfl
  have x1 : X.heap[w.heap.size + 1]? = some (.cells #[.bool false] 4 (0, 0)) := by
    rw [← hX, heap_setCell_other _ _ _ _ (by simp), heap_setCell_other _ _ _ _ (by simp)]
    exact h1
  have hB : Below w.heap.size w X := by
    rw [← hX]
    exact (((((Below.refl _ w).alloc (Nat.le_refl _) _).alloc (by simp) _).trans ((below_drewN_any _ q).mono (by simp; omega))).setCell (by simp) _).setCell (by simp) _
  rw [hX]
  clear hX h0 h1
  unfold three
  refine ⟨?_, ?_, ?_, ?_, ?_, ((hB.alloc (by omega) _).alloc (by simp; omega) _).alloc (by simp; omega) _⟩
  · rw [Below.heap_alloc _ _ _ (by simp; omega), Below.heap_alloc _ _ _ (by simp; omega), Below.heap_alloc _ _ _ (by omega)]; exact x0
  · rw [Below.heap_alloc _ _ _ (by simp; omega), Below.heap_alloc _ _ _ (by simp; omega), Below.heap_alloc _ _ _ (by omega)]; exact x1
  · rw [Below.heap_alloc _ _ _ (by simp; omega), Below.heap_alloc _ _ _ (by simp; omega), ← hs]; exact heap_alloc_new X _
  · rw [Below.heap_alloc _ _ _ (by simp; omega), ← hs]
    have := heap_alloc_new (X.alloc (.cells #[S mid] 9)) (.cells #[.string ⟨#[42]⟩] 9)
    rwa [World.size_alloc] at this
  · rw [← hs]
    have := heap_alloc_new ((X.alloc (.cells #[S mid] 9)).alloc (.cells #[.string ⟨#[42]⟩] 9)) (.cells #[.int .i64 0] 3)
    rwa [World.size_alloc, World.size_alloc] at this


theorem idx_some (s p : List UInt8) (h : ¬ Lib.index s p < 0) : ∃ k : Nat, Lib.index s p = (k : Int) ∧ k + p.length ≤ s.length := by
  have h1 := Lib.index_room s p (by omega)
  exact ⟨(Lib.index s p).toNat, by omega, by omega⟩
theorem idx_neg (s p : List UInt8) (h : Lib.index s p < 0) : Lib.index s p = -1 := by
  have := Lib.index_ge s p
  omega

/-- The name's cell turns. -/
theorem MS.name {w W : World} {mid nm : List UInt8} (h : MS w mid nm W) (nm' : List UInt8) : MS w mid nm' (W.setCell ⟨w.heap.size, 0, none⟩ (S nm')) := by
  obtain ⟨h0, h1, h2, h3, h4, h5⟩ := h
  refine ⟨?_, ?_, ?_, ?_, ?_, h5.setCell (by simp) _⟩
  · rw [heap_setCell_same _ _ _ _ _ _ h0]; rfl
  · rw [heap_setCell_other _ _ _ _ (by simp)]; exact h1
  · rw [heap_setCell_other _ _ _ _ (by simp; omega)]; exact h2
  · rw [heap_setCell_other _ _ _ _ (by simp; omega)]; exact h3
  · rw [heap_setCell_other _ _ _ _ (by simp; omega)]; exact h4
theorem MS.mid {w W : World} {mid nm : List UInt8} (h : MS w mid nm W) (mid' : List UInt8) : MS w mid' nm (W.setCell ⟨w.heap.size + 1 + 1, 0, none⟩ (S mid')) := by
  obtain ⟨h0, h1, h2, h3, h4, h5⟩ := h
  refine ⟨?_, ?_, ?_, ?_, ?_, h5.setCell (by simp; omega) _⟩
  · rw [heap_setCell_other _ _ _ _ (by simp; omega)]; exact h0
  · rw [heap_setCell_other _ _ _ _ (by simp)]; exact h1
  · rw [heap_setCell_same _ _ _ _ _ _ h2]; rfl
  · rw [heap_setCell_other _ _ _ _ (by simp)]; exact h3
  · rw [heap_setCell_other _ _ _ _ (by simp; omega)]; exact h4
theorem MS.put {w W : World} {mid nm : List UInt8} (h : MS w mid nm W) {l : Nat} (o : Obj) (hl : w.heap.size + 1 + 1 + 1 + 1 < l) (hlt : l < W.heap.size) : MS w mid nm (W.putObj l o) := by
  obtain ⟨h0, h1, h2, h3, h4, h5⟩ := h
  exact ⟨(World.putObj_heap_other (by omega)).trans h0, (World.putObj_heap_other (by omega)).trans h1, (World.putObj_heap_other (by omega)).trans h2, (World.putObj_heap_other (by omega)).trans h3, (World.putObj_heap_other (by omega)).trans h4,
    h5.grown (grownBy_putObj' W l o) (by omega) (fun k e => by cases e; omega)⟩

/-- The loop's record and its block for deferred calls lie beside. -/
def LW (w : World) (D l : Nat) (r : Loop) (mid nm : List UInt8) (W : World) : Prop :=
  MS w mid nm W ∧ W.heap[D]? = some (.deferred (some [])) ∧ W.heap[l]? = some (.loop r) ∧ w.heap.size + 1 + 1 + 1 + 1 < D ∧ D < l
/-- A round has said 'no more': false is the answer. -/
def LX (w : World) (D l : Nat) (r : Loop) (W : World) : Prop :=
  W.heap[w.heap.size + 1]? = some (.cells #[.bool false] 4 (0, 0)) ∧ Below w.heap.size w W ∧ W.heap[D]? = some (.deferred (some [])) ∧ W.heap[l]? = some (.loop { r with state := .done, pending := some .ret }) ∧ w.heap.size + 1 + 1 + 1 + 1 < D ∧ D < l

/-- How a round's body is left. -/
def bodyEnd (w : World) (nm run : List UInt8) (W : World) : Exit → Act → World → Prop
  | .normal, _, W' => 0 ≤ Lib.index nm run ∧ W' = W.setCell ⟨w.heap.size, 0, none⟩ (S (nm.drop ((Lib.index nm run).toNat + run.length)))
  | .ret, _, W' => Lib.index nm run < 0 ∧ W' = W.setCell ⟨w.heap.size + 1, 0, none⟩ (.bool false)
  | _, _, _ => False

/-- What one round does. -/
def roundEnd (w : World) (D l : Nat) (r : Loop) (mid nm run : List UInt8) (e : Ending) (W' : World) : Prop :=
  (e = .returned (.bool true) ∧ 0 ≤ Lib.index nm run ∧ LW w D l r mid (nm.drop ((Lib.index nm run).toNat + run.length)) W') ∨ (e = .returned (.bool false) ∧ Lib.index nm run < 0 ∧ LX w D l r W')

theorem one_round (w : World) (D l : Nat) (fn : FuncId) (tmps : Array Value) (assign body : Code) (a₁ : List UInt8 → Act) (mid nm run : List UInt8) (W : World) (m : Nat)
    (hassign : ∀ (l : Nat) (run : List UInt8) (W : World) (K : Act → World → Prop), K (a₁ run) W → assign.wpIn (Fence.wide.inRound l) m Tryd.prog (Exit.then K (fun _ _ _ => False)) { tmps := tmps.setIfInBounds 57 (S run), defers := [] } W)
    (hbody : ∀ (l : Nat) (mid nm run : List UInt8) (W : World), MS w mid nm W → nm.length < 4294967281 → body.wpIn (Fence.wide.inRound l) m Tryd.prog (bodyEnd w nm run W) (a₁ run) W)
    (hnm : nm.length < 4294967281) (h : LW w D l { state := .ready, pending := none, fn, tmps, params := #[57], assign, body, defers := D } mid nm W) :
    YieldAt Fence.wide m Tryd.prog l #[S run] W (roundEnd w D l { state := .ready, pending := none, fn, tmps, params := #[57], assign, body, defers := D } mid nm run) := by
  obtain ⟨hMS, hD, hl, h1, h2⟩ := h
  have hlt : l < W.heap.size := (Array.getElem?_eq_some_iff.1 hl).1
  refine ⟨fn, tmps.setIfInBounds 57 (S run), assign, body, (by have := run_yield (P := Tryd.prog) (args := #[S run]) hl rfl; simpa using this), roundIn_of_wpIn trivial (hassign l run W _ ⟨_, run_beginRound hl rfl, ?_⟩)⟩
  obtain ⟨W2, hW2⟩ : ∃ W2, W.putObj l (.loop { state := .busy, pending := none, fn, tmps, params := #[57], assign, body, defers := D }) = W2 := ⟨_, rfl⟩
  have hM2 : MS w mid nm W2 := by rw [← hW2]; exact hMS.put _ (by omega) hlt
  have hD2 : W2.heap[D]? = some (.deferred (some [])) := by rw [← hW2]; exact (World.putObj_heap_other (by omega)).trans hD
  have hl2 : W2.heap[l]? = some (.loop { state := .busy, pending := none, fn, tmps, params := #[57], assign, body, defers := D }) := by rw [← hW2]; exact World.putObj_heap_same hlt
  have hlt2 : l < W2.heap.size := (Array.getElem?_eq_some_iff.1 hl2).1
  simp only
  rw [hW2]
  refine wpIn_mono (hbody l mid nm run W2 hM2 hnm) ?_
  rintro e a3 W3 hp
  cases e with
  | normal =>
    obtain ⟨hi, rfl⟩ := hp
    have hl3 : (W2.setCell ⟨w.heap.size, 0, none⟩ (S (nm.drop ((Lib.index nm run).toNat + run.length)))).heap[l]? = some (.loop { state := .busy, pending := none, fn, tmps, params := #[57], assign, body, defers := D }) := by
      rw [heap_setCell_other _ _ _ _ (by simp; omega)]; exact hl2
    refine ⟨_, _, run_endRound (P := Tryd.prog) none hl3, .inl ⟨rfl, hi, (hM2.name _).put _ (by omega) (Array.getElem?_eq_some_iff.1 hl3).1, ?_, World.putObj_heap_same (Array.getElem?_eq_some_iff.1 hl3).1, h1, h2⟩⟩
    exact (World.putObj_heap_other (by omega)).trans ((heap_setCell_other _ _ _ _ (by simp; omega)).trans hD2)
  | ret =>
    obtain ⟨hi, rfl⟩ := hp
    have hl3 : (W2.setCell ⟨w.heap.size + 1, 0, none⟩ (.bool false)).heap[l]? = some (.loop { state := .busy, pending := none, fn, tmps, params := #[57], assign, body, defers := D }) := by
      rw [heap_setCell_other _ _ _ _ (by simp; omega)]; exact hl2
    have hlt3 := (Array.getElem?_eq_some_iff.1 hl3).1
    refine ⟨_, _, run_endRound (P := Tryd.prog) (some .ret) hl3, .inr ⟨rfl, hi, ?_, ?_, ?_, World.putObj_heap_same hlt3, h1, h2⟩⟩
    · refine (World.putObj_heap_other (by omega)).trans ?_
      rw [heap_setCell_same _ _ _ _ _ _ hM2.2.1]; rfl
    · exact (hM2.2.2.2.2.2.setCell (by simp) _).grown (grownBy_putObj' _ l _) (by omega) (fun k e => by cases e; omega)
    · exact (World.putObj_heap_other (by omega)).trans ((heap_setCell_other _ _ _ _ (by simp; omega)).trans hD2)
  | exit id => exact hp.elim
  | goto t => exact hp.elim
  | panic c => exact hp.elim
  | outgrown => exact hp.elim

def sl : Value → Nat
  | .string s => s.size
  | _ => 0
theorem sl_S (l : List UInt8) : sl (S l) = l.length := rfl
/-- How much of the middle is left. -/
def left (w W : World) : Nat := match W.cell? ⟨w.heap.size + 1 + 1, 0, none⟩ with
  | some v => sl v
  | none => 0
theorem MS.left {w W : World} {mid nm : List UInt8} (h : MS w mid nm W) : left w W = mid.length := by
  unfold Qxb6000393aDoor.left
  rw [cell_of_row _ _ _ _ _ _ h.2.2.1]
  rfl
theorem MS.cells {w W : World} {mid nm : List UInt8} (h : MS w mid nm W) : W.cell? ⟨w.heap.size, 0, none⟩ = some (S nm) ∧ W.cell? ⟨w.heap.size + 1 + 1, 0, none⟩ = some (S mid) ∧ W.cell? ⟨w.heap.size + 1 + 1 + 1, 0, none⟩ = some (S [42]) ∧ W.cell? ⟨w.heap.size + 1 + 1 + 1 + 1, 0, none⟩ = some (.int .i64 0) ∧
    W.frozen? ⟨w.heap.size, 0, none⟩ = false ∧ W.frozen? ⟨w.heap.size + 1 + 1, 0, none⟩ = false ∧ W.cell? ⟨w.heap.size + 1, 0, none⟩ = some (.bool false) ∧ W.frozen? ⟨w.heap.size + 1, 0, none⟩ = false := by
  obtain ⟨h0, h1, h2, h3, h4, h5⟩ := h
  exact ⟨by rw [cell_of_row _ _ _ _ _ _ h0]; rfl, by rw [cell_of_row _ _ _ _ _ _ h2]; rfl, by rw [cell_of_row _ _ _ _ _ _ h3]; rfl, by rw [cell_of_row _ _ _ _ _ _ h4]; rfl, frozen_of_row _ _ _ _ _ h0, frozen_of_row _ _ _ _ _ h2, by rw [cell_of_row _ _ _ _ _ _ h1]; rfl, frozen_of_row _ _ _ _ _ h1⟩

theorem LW.mid {w W : World} {D l : Nat} {r : Loop} {mid nm : List UInt8} (h : LW w D l r mid nm W) (mid' : List UInt8) : LW w D l r mid' nm (W.setCell ⟨w.heap.size + 1 + 1, 0, none⟩ (S mid')) := by
  obtain ⟨h1, h2, h3, h4, h5⟩ := h
  exact ⟨h1.mid mid', (heap_setCell_other _ _ _ _ (by simp; omega)).trans h2, (heap_setCell_other _ _ _ _ (by simp; omega)).trans h3, h4, h5⟩
theorem runs_step (fuel : Nat) (mid nm : List UInt8) (k : Nat) (run : List UInt8) (B : Bool) (hk : Lib.index mid [42] = (k : Int)) (hrn : mid.take k = run) (h : runsF (fuel + 1) mid nm = B) :
    (0 ≤ Lib.index nm run → runsF fuel (mid.drop (k + 1)) (nm.drop ((Lib.index nm run).toNat + run.length)) = B) ∧ (Lib.index nm run < 0 → B = false) := by
  rw [runsF, if_neg (by omega), hk, Int.toNat_natCast, hrn] at h
  refine ⟨fun h0 => ?_, fun h0 => ?_⟩
  · rw [if_neg (by omega)] at h; exact h
  · rw [if_pos h0] at h; exact h.symm

def iterEnd (w : World) (D l : Nat) (r : Loop) (B : Bool) (e : Ending) (W' : World) : Prop :=
  (∃ v, e = .returned v) ∧ ((B = true ∧ ∃ mid nm, LW w D l r mid nm W') ∨ (B = false ∧ LX w D l r W'))

set_option maxRecDepth 100000 in
set_option maxHeartbeats 2000000 in
theorem iter (w : World) (D l : Nat) (r : Loop) (m : Nat) (hM : HasMax w)
    (hY : ∀ (mid nm run : List UInt8) (W : World), nm.length < 4294967281 → LW w D l r mid nm W → YieldAt Fence.wide m Tryd.prog l #[S run] W (roundEnd w D l r mid nm run))
    (mid nm : List UInt8) (W : World) (hmid : mid.length < 4294967281) (hnm : nm.length < 4294967281) (h : LW w D l r mid nm W) :
    CallsIn Fence.wide (m + 1) Tryd.prog 47 #[.func (.yield l) #[] #[], .pointer (some ⟨w.heap.size + 1 + 1 + 1, 0, none⟩), .pointer (some ⟨w.heap.size + 1 + 1, 0, none⟩), .pointer (some ⟨w.heap.size + 1 + 1 + 1 + 1, 0, none⟩)] W (iterEnd w D l r (runsF (mid.length + 1) mid nm)) := by
  obtain ⟨B, hB⟩ : ∃ B, runsF (mid.length + 1) mid nm = B := ⟨_, rfl⟩
  rw [hB]
  have stS := store_S
  have cS := cells_S
  simp only [Value.cells] at cS
  have HY := hide hY
  have HM := hide hM
  have H0 : Hid (∃ (fuel : Nat) (mid nm : List UInt8), mid.length < fuel ∧ mid.length < 4294967281 ∧ nm.length < 4294967281 ∧ runsF fuel mid nm = B ∧ LW w D l r mid nm W) := ⟨_, mid, nm, Nat.lt_succ_self _, hmid, hnm, hB, h⟩
  obtain ⟨c0, c1, c2, c3, c4, c5, c6, c7⟩ := h.1.cells
  have hl42 : ∀ w, (Builtin.len_ #[9] 3 #[S [42]]).run Tryd.prog w = .ok (.int .i64 1) w := fun w => len_S [42] w
  clear hY hM h hmid hnm hB
  refine callsIn_of_wp Tryd.func47 rfl trivial ?_ rfl
  simp only [Tryd.ntmps47, List.size_toArray, List.length_cons, List.length_nil, Nat.reduceAdd, Nat.reduceSub, Array.replicate_succ, Array.replicate_zero, List.push_toArray, List.append_toArray, List.nil_append, List.cons_append]
  gi_wp2
  clear c0 c1 c2 c3 c4 c5 c6 c7
  gi_loopw [7] (fun _ wr => ∃ (fuel : Nat) (mid nm : List UInt8), mid.length < fuel ∧ mid.length < 4294967281 ∧ nm.length < 4294967281 ∧ runsF fuel mid nm = B ∧ LW w D l r mid nm wr) (fun _ wr => left w wr)
  case atStart => exact unhide H0
  case round =>
    clear H0
    obtain ⟨fuel, mid, nm, hf, hmid, hnm, hrun, hLW⟩ := hrel
    obtain ⟨fuel, rfl⟩ : ∃ k, fuel = k + 1 := ⟨fuel - 1, by omega⟩
    obtain ⟨c0, c1, c2, c3, c4, c5, c6, c7⟩ := hLW.1.cells
    have hMx : HasMax wr := (unhide HM).below hLW.1.2.2.2.2.2
    have HI := hide (index_S mid [42] wr hmid hMx)
    by_cases hi : Lib.index mid [42] < 0
    · rw [idx_neg _ _ hi] at HI
      have HB : Hid (B = decide (0 ≤ Lib.index nm mid)) := hide (by rw [← hrun, runsF, if_pos hi])
      obtain ⟨fn, tmps, assign, body, hy, hR⟩ := unhide HY mid nm mid wr hnm hLW
      have HR := hide hR
      clear hMx hi hrun hLW hf hR
      gi_wp2_with (refine ⟨trivial, ?_⟩; gi_at_call 31; refine (callsIn_wide.2 (unhide HI)).mono ?_; rintro e w1 ⟨rfl, hw⟩; rw [hw]; clear HI hw w1)
      refine (unhide HR).mono ?_
      rintro e W3 (⟨rfl, hpos, hL3⟩ | ⟨rfl, hneg, hX3⟩)
      · have HE : Hid (iterEnd w D l r B (.returned (.tuple #[])) W3) := ⟨⟨_, rfl⟩, .inl ⟨by rw [unhide HB]; exact decide_eq_true hpos, _, _, hL3⟩⟩
        clear hpos hL3
        gi_wp2
        go_end0
        exact unhide HE
      · have HE : Hid (iterEnd w D l r B (.returned (.tuple #[])) W3) := ⟨⟨_, rfl⟩, .inr ⟨by rw [unhide HB]; exact decide_eq_false (by omega), hX3⟩⟩
        clear hneg hX3
        gi_wp2
        go_end0
        exact unhide HE
    · obtain ⟨k, hk, hkl⟩ := idx_some _ _ hi
      rw [hk] at HI
      obtain ⟨run, hrn⟩ : ∃ run, mid.take k = run := ⟨_, rfl⟩
      obtain ⟨fn, tmps, assign, body, hy, hR⟩ := unhide HY mid nm run wr hnm hLW
      have HR := hide hR
      have Hrun := hide hrun
      have Hk := hide hk
      have Hrn := hide hrn
      have HLW := hide hLW
      have hto := to_S mid k (by simp at hkl; omega)
      rw [hrn] at hto
      have hfr : ∀ w, (Instr.slice 9 (S mid) (some (.int .i64 ((k : Int) + 1))) none none).run Tryd.prog w = .ok (S (mid.drop (k + 1))) w := fun w => from_S mid (k + 1) (by simpa using hkl) w
      have HST := hide (runs_step fuel mid nm k run B hk hrn hrun)
      have hkl1 : k + 1 ≤ mid.length := by simpa using hkl
      have hlft := hLW.1.left
      have Hlft := hide hlft
      clear hMx hi hrun hLW hR hk hrn hkl hlft
      gi_wp2_with (refine ⟨trivial, ?_⟩; gi_at_call 31; refine (callsIn_wide.2 (unhide HI)).mono ?_; rintro e w1 ⟨rfl, hw⟩; rw [hw]; clear HI hw w1)
      refine (unhide HR).mono ?_
      rintro e W3 (⟨rfl, hpos, hL3⟩ | ⟨rfl, hneg, hX3⟩)
      · obtain ⟨d0, d1, d2, d3, d4, d5, d6, d7⟩ := hL3.1.cells
        have HL4 := hide (hL3.mid (mid.drop (k + 1)))
        have Hpos := hide hpos
        clear hpos hL3
        gi_wp2
        go_roundw
        case rel => exact ⟨fuel, mid.drop (k + 1), _, by simp; omega, by simp; omega, by simp; omega, (unhide HST).1 (unhide Hpos), unhide HL4⟩
        case measure => rw [(unhide HL4).1.left, unhide Hlft]; simp; omega
      · have HE : Hid (iterEnd w D l r B (.returned (.tuple #[])) W3) := ⟨⟨_, rfl⟩, .inr ⟨(unhide HST).2 hneg, hX3⟩⟩
        clear hneg hX3
        gi_wp2
        refine bodyPost_ret (results_none rfl _ _ _) rfl ?_
        exact unhide HE

end Go.Proofs.Qxb6000393aDoor
