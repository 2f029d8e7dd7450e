/-
  zzCopyStmts, walked.
-/
import Derived.Test.Qxb6000393aDoorCopyS
import Derived.Deep.RegionHeld3
namespace Go.Proofs.Qxb6000393aDoor
open Go.RowKit

theorem below_drew (w : World) : Below w.heap.size w w.drew := ⟨rfl, rfl, rfl, Nat.le_refl _, fun _ _ => rfl⟩

/-- A statement as the law takes it: effect, action patterns, resource patterns, policy. -/
abbrev ZS := Int × List (List UInt8) × List (List UInt8) × Nat
def z0 : ZS := (0, [], [], 0)

/-- It lies in memory. -/
def ZAt (w : World) (b o : Nat) (z : ZS) : Prop :=
  ∃ va vr, w.cell? ⟨b, o, none⟩ = some (.int .i64 z.1) ∧ w.cell? ⟨b, o + 1, none⟩ = some va ∧ w.cell? ⟨b, o + 2, none⟩ = some vr ∧ w.cell? ⟨b, o + 3, none⟩ = some (.int .u8 (z.2.2.2 : Int)) ∧ Strs w va z.2.1 ∧ Strs w vr z.2.2.1
theorem ZAt.below {w w' : World} {b o : Nat} {z : ZS} (h : ZAt w b o z) (hB : Below w.heap.size w w') : ZAt w' b o z := by
  obtain ⟨va, vr, h0, h1, h2, h3, h4, h5⟩ := h
  have hb := World.block_lt_of_cell? _ _ h0
  exact ⟨va, vr, (hB.cell (p := ⟨b, o, none⟩) hb).trans h0, (hB.cell (p := ⟨b, o + 1, none⟩) hb).trans h1, (hB.cell (p := ⟨b, o + 2, none⟩) hb).trans h2, (hB.cell (p := ⟨b, o + 3, none⟩) hb).trans h3, h4.below hB, h5.below hB⟩

/-- The statements Z lie in a slice. -/
def Zs (w : World) (v : Value) (Z : List ZS) : Prop := ∃ p c, v = .slice p Z.length c ∧ (0 < Z.length → ∃ b o, p = some ⟨b, o, none⟩ ∧ ∀ j, j < Z.length → ZAt w b (o + j * 4) (Z[j]?.getD z0))
theorem Zs.below {w w' : World} {v : Value} {Z : List ZS} (h : Zs w v Z) (hB : Below w.heap.size w w') : Zs w' v Z := by
  obtain ⟨p, c, h1, h2⟩ := h
  refine ⟨p, c, h1, fun h0 => ?_⟩
  obtain ⟨b, o, h3, h4⟩ := h2 h0
  exact ⟨b, o, h3, fun j hj => (h4 j hj).below hB⟩

/-- Lengths that the walks can bear. -/
def SmallZ (Z : List ZS) : Prop := Z.length ≤ 2000000 ∧ ∀ z ∈ Z, Small z.2.1 ∧ Small z.2.2.1
theorem SmallZ.at {Z : List ZS} (h : SmallZ Z) (j : Nat) (hj : j < Z.length) : Small (Z[j]?.getD z0).2.1 ∧ Small (Z[j]?.getD z0).2.2.1 := by
  rw [List.getElem?_eq_getElem hj]
  exact h.2 _ (List.getElem_mem hj)

/-- The copy's row behind k rounds. -/
def ZRow (w : World) (Z : List ZS) (k : Nat) (wr : World) : Prop :=
  ∃ cur : Array Value, wr.heap[w.heap.size]? = some (.cells cur 40 (0, 0)) ∧ cur.size = Z.length * 4 ∧ Below w.heap.size w wr ∧ w.heap.size + 1 ≤ wr.heap.size ∧
    ∀ j, j < k → ∃ va vr, cur[j * 4]? = some (.int .i64 (Z[j]?.getD z0).1) ∧ cur[j * 4 + 1]? = some va ∧ cur[j * 4 + 2]? = some vr ∧ cur[j * 4 + 3]? = some (.int .u8 ((Z[j]?.getD z0).2.2.2 : Int)) ∧
      StrsB (w.heap.size + 1 ≤ ·) wr va (Z[j]?.getD z0).2.1 ∧ StrsB (w.heap.size + 1 ≤ ·) wr vr (Z[j]?.getD z0).2.2.1

theorem ZRow.below {w : World} {Z : List ZS} {k : Nat} {wr wr' : World} (h : ZRow w Z k wr) (hB : Below wr.heap.size wr wr') : ZRow w Z k wr' := by
  obtain ⟨cur, h1, h2, h3, h4, h5⟩ := h
  have := hB.size
  refine ⟨cur, by rw [hB.block _ (by omega)]; exact h1, h2, h3.trans (hB.mono (by omega)), by omega, fun j hj => ?_⟩
  obtain ⟨va, vr, a1, a2, a3, a4, a5, a6⟩ := h5 j hj
  exact ⟨va, vr, a1, a2, a3, a4, a5.below hB, a6.below hB⟩

theorem ZRow.cells {w : World} {Z : List ZS} {k : Nat} {wr : World} (h : ZRow w Z k wr) (i : Nat) (hi : i < Z.length * 4) : ∃ u, wr.cell? ⟨w.heap.size, i, none⟩ = some u ∧ wr.frozen? ⟨w.heap.size, i, none⟩ = false := by
  obtain ⟨cur, h1, h2, _⟩ := h
  exact ⟨cur[i]'(by omega), by rw [cell_of_row _ _ _ _ _ _ h1]; exact Array.getElem?_eq_getElem (by omega), frozen_of_row _ _ _ _ _ h1⟩

theorem ZRow.step {w : World} {Z : List ZS} {k : Nat} {wr : World} (h : ZRow w Z k wr) (hk : k < Z.length) {va vr : Value} {ez : Int} {Az Rz : List (List UInt8)} {pz : Nat} (hz : Z[k]?.getD z0 = (ez, Az, Rz, pz)) (ha : StrsB (w.heap.size + 1 ≤ ·) wr va Az) (hr : StrsB (w.heap.size + 1 ≤ ·) wr vr Rz) :
    ZRow w Z (k + 1) ((((wr.setCell ⟨w.heap.size, k * 4, none⟩ (.int .i64 ez)).setCell ⟨w.heap.size, k * 4 + 1, none⟩ va).setCell ⟨w.heap.size, k * 4 + 2, none⟩ vr).setCell ⟨w.heap.size, k * 4 + 3, none⟩ (.int .u8 (pz : Int))) := by
  obtain ⟨cur, h1, h2, h3, h4, h5⟩ := h
  have e1 := heap_setCell_same wr w.heap.size (k * 4) cur 40 (.int .i64 ez) h1
  have e2 := heap_setCell_same _ w.heap.size (k * 4 + 1) _ 40 va e1
  have e3 := heap_setCell_same _ w.heap.size (k * 4 + 2) _ 40 vr e2
  have e4 := heap_setCell_same _ w.heap.size (k * 4 + 3) _ 40 (.int .u8 (pz : Int)) e3
  have hkeep : ∀ (b : Nat) (cs : Array Value), w.heap.size + 1 ≤ b → wr.heap[b]? = some (.cells cs 9 (0, 0)) → ((((wr.setCell ⟨w.heap.size, k * 4, none⟩ (.int .i64 ez)).setCell ⟨w.heap.size, k * 4 + 1, none⟩ va).setCell ⟨w.heap.size, k * 4 + 2, none⟩ vr).setCell ⟨w.heap.size, k * 4 + 3, none⟩ (.int .u8 (pz : Int))).heap[b]? = wr.heap[b]? := fun b _ hb _ => by
    rw [heap_setCell_other _ _ _ _ (by simp; omega), heap_setCell_other _ _ _ _ (by simp; omega), heap_setCell_other _ _ _ _ (by simp; omega), heap_setCell_other _ _ _ _ (by simp; omega)]
  refine ⟨_, e4, by simpa using h2, (((h3.setCell (by simp) _).setCell (by simp) _).setCell (by simp) _).setCell (by simp) _, by simpa using h4, fun j hj => ?_⟩
  by_cases hjk : j = k
  · subst hjk
    rw [hz]
    refine ⟨va, vr, ?_, ?_, ?_, ?_, ha.keep hkeep, hr.keep hkeep⟩
    · simp [Array.getElem?_setIfInBounds]; omega
    · simp [Array.getElem?_setIfInBounds]; omega
    · simp [Array.getElem?_setIfInBounds]; omega
    · simp [Array.getElem?_setIfInBounds]; omega
  · obtain ⟨va', vr', a1, a2, a3, a4, a5, a6⟩ := h5 j (by omega)
    have hne : ∀ i m, i < 4 → m < 4 → k * 4 + i ≠ j * 4 + m := fun i m _ _ => by omega
    have hf : ∀ m, m < 4 → ((((cur.setIfInBounds (k * 4) (.int .i64 ez)).setIfInBounds (k * 4 + 1) va).setIfInBounds (k * 4 + 2) vr).setIfInBounds (k * 4 + 3) (.int .u8 (pz : Int)))[j * 4 + m]? = cur[j * 4 + m]? := fun m hm => by
      rw [Array.getElem?_setIfInBounds_ne (hne 3 m (by omega) hm), Array.getElem?_setIfInBounds_ne (hne 2 m (by omega) hm), Array.getElem?_setIfInBounds_ne (hne 1 m (by omega) hm), Array.getElem?_setIfInBounds_ne (by omega)]
    exact ⟨va', vr', (hf 0 (by omega)).trans a1, (hf 1 (by omega)).trans a2, (hf 2 (by omega)).trans a3, (hf 3 (by omega)).trans a4, a5.keep hkeep, a6.keep hkeep⟩

theorem ZRow.done {w : World} {Z : List ZS} {wr : World} (h : ZRow w Z Z.length wr) (c : Nat) : Zs wr (.slice (some ⟨w.heap.size, 0, none⟩) Z.length c) Z := by
  obtain ⟨cur, h1, h2, h3, h4, h5⟩ := h
  refine ⟨_, c, rfl, fun _ => ⟨w.heap.size, 0, rfl, fun j hj => ?_⟩⟩
  obtain ⟨va, vr, a1, a2, a3, a4, a5, a6⟩ := h5 j hj
  rw [Nat.zero_add]
  exact ⟨va, vr, by rw [cell_of_row _ _ _ _ _ _ h1]; exact a1, by rw [cell_of_row _ _ _ _ _ _ h1]; exact a2, by rw [cell_of_row _ _ _ _ _ _ h1]; exact a3, by rw [cell_of_row _ _ _ _ _ _ h1]; exact a4, a5.strs, a6.strs⟩

theorem Tryd.info40 : (Tryd.prog.info? 40).map (fun i => (i.zero, i.size, i.bytes)) = some (some (.agg #[.int .i64 0, .slice none 0 0, .slice none 0 0, .int .u8 0]), 4, 64) := by kernel_rfl

def CopyZPost (Z : List ZS) (w : World) (e : Ending) (w' : World) : Prop := ∃ v, e = .returned v ∧ Zs w' v Z ∧ Below w.heap.size w w'

set_option maxRecDepth 100000 in
set_option maxHeartbeats 4000000 in
theorem copy17_some (a : Addr) (c : Nat) (Z : List ZS) (w : World) (hZ : SmallZ Z) (hs : 0 < Z.length → ∃ b o, some a = some ⟨b, o, none⟩ ∧ ∀ j, j < Z.length → ZAt w b (o + j * 4) (Z[j]?.getD z0)) :
    Calls Tryd.prog 17 #[.slice (some a) Z.length c] w (CopyZPost Z w) := by
  obtain ⟨i0, hi, hz0, hz1, hz2⟩ := info_parts Tryd.info40
  have hmk : ∀ w : World, (Instr.makeSlice 26 (.int .i64 (Z.length : Int)) (.int .i64 (Z.length : Int))).run Tryd.prog w = .ok (.slice (some ⟨w.heap.size, 0, none⟩) Z.length Z.length) (w.alloc (.cells (madeCells #[.int .i64 0, .slice none 0 0, .slice none 0 0, .int .u8 0] (Z.length * 4)) 40)) := fun w => by
    have h := hZ.1
    have hr := run_make (P := Tryd.prog) w 26 40 i0 _ Tryd.underlying26 hi hz0 .i64 .i64 (Z.length : Int) (Z.length : Int) (by omega) (Int.le_refl _) (by rw [hz2]; omega) (by omega)
    rw [hz1] at hr
    simp only [Int.toNat_natCast] at hr
    exact hr
  have q22 : ∀ (w : World) (a : Option Addr) (n c n' c' : Nat), (binOp .eql 26 (.slice a n c) (.slice none n' c')).run Tryd.prog w = .ok (.bool a.isNone) w := fun w a n c n' c' => Lib.run_eql_slice_nil w _ _ a n c n' c' Tryd.underlying26
  have hR0 : Hid (ZRow w Z 0 (w.alloc (.cells (madeCells #[.int .i64 0, .slice none 0 0, .slice none 0 0, .int .u8 0] (Z.length * 4)) 40))) := hide ⟨_, heap_alloc_new w _, size_madeCells _ _, (Below.refl _ w).alloc (Nat.le_refl _) _, by simp, fun j hj => absurd hj (Nat.not_lt_zero j)⟩
  have Hs := hide hs
  have HZ := hide hZ
  have hZn := hZ.1
  clear hs hZ hi hz0 hz1 hz2
  generalize hN : Z.length = n at *
  go_enter Tryd.func17, Tryd.ntmps17
  go_wp2
  go_loopw [4] (fun i wr => ∃ k : Nat, k ≤ n ∧ i = .int .i64 k ∧ ZRow w Z k wr) (fun i _ => n - (intOf i).toNat)
  case atStart => exact ⟨0, Nat.zero_le _, rfl, unhide hR0⟩
  case round =>
    clear hR0 hmk
    obtain ⟨k, hk, rfl, hrow⟩ := hrel
    by_cases hlt : k < n
    · obtain ⟨b, o, e, hc⟩ := unhide Hs (by omega)
      cases e
      have hB : Below w.heap.size w wr := by obtain ⟨_, _, _, h, _⟩ := hrow; exact h
      have hzk := hc k hlt
      have hsm := (unhide HZ).at k (by omega)
      obtain ⟨⟨ez, Az, Rz, pz⟩, hz⟩ : ∃ z, Z[k]?.getD z0 = z := ⟨_, rfl⟩
      rw [hz] at hzk hsm
      obtain ⟨va, vr, k0, k1, k2, k3, k4, k5⟩ := hzk
      have SK : Hid (∀ w', Below w.heap.size w w' → w'.cell? ⟨b, o + k * 4, none⟩ = some (.int .i64 ez) ∧ w'.cell? ⟨b, o + k * 4 + 1, none⟩ = some va ∧ w'.cell? ⟨b, o + k * 4 + 2, none⟩ = some vr ∧ w'.cell? ⟨b, o + k * 4 + 3, none⟩ = some (.int .u8 (pz : Int))) := hide fun w' h =>
        ⟨(h.cell (p := ⟨b, o + k * 4, none⟩) (World.block_lt_of_cell? _ _ k0)).trans k0, (h.cell (p := ⟨b, o + k * 4 + 1, none⟩) (World.block_lt_of_cell? _ _ k1)).trans k1, (h.cell (p := ⟨b, o + k * 4 + 2, none⟩) (World.block_lt_of_cell? _ _ k2)).trans k2, (h.cell (p := ⟨b, o + k * 4 + 3, none⟩) (World.block_lt_of_cell? _ _ k3)).trans k3⟩
      have HC1 : Hid (∀ w', Below w.heap.size w w' → Calls Tryd.prog 18 #[va] w' (CopyPost Az w')) := hide fun w' h => copy18 va _ w' hsm.1.1 (k4.below h)
      have HC2 : Hid (∀ w', Below w.heap.size w w' → Calls Tryd.prog 18 #[vr] w' (CopyPost Rz w')) := hide fun w' h => copy18 vr _ w' hsm.2.1 (k5.below h)
      have hge : w.heap.size + 1 ≤ wr.heap.size := by obtain ⟨_, _, _, _, h, _⟩ := hrow; exact h
      have HBw := hide hB
      have Hrow := hide hrow
      have HlenN := hide hN
      have Hz := hide hz
      clear hc hB k4 k5 hsm hrow hN k0 k1 k2 k3 hz Hs HZ
      go_wp2_with fail
      go_region_held3 (fun w' => w'.cell? ⟨b, o + k * 4, none⟩ = some (.int .i64 ez) ∧ w'.cell? ⟨b, o + k * 4 + 1, none⟩ = some va ∧ w'.cell? ⟨b, o + k * 4 + 2, none⟩ = some vr ∧ w'.cell? ⟨b, o + k * 4 + 3, none⟩ = some (.int .u8 (pz : Int)))
        (first | exact unhide SK _ ((((((unhide HBw).trans ((unhide HB2).mono (unhide HBw).size)).setCell (Nat.le_refl _) _).setCell (Nat.le_refl _) _).setCell (Nat.le_refl _) _).setCell (Nat.le_refl _) _) | exact unhide SK _ ((unhide HBw).trans ((unhide HB2).mono (unhide HBw).size)) | exact unhide SK _ ((unhide HBw).trans ((unhide HB1).mono (unhide HBw).size)) | exact unhide SK _ ((unhide HBw).trans ((below_drew _).mono (unhide HBw).size)))
        (first
          | (go_at_call_of 18 va; refine (unhide HC1 _ ?_).mono ?_; (exact (unhide HBw).trans ((below_drew _).mono (unhide HBw).size)); rintro e w1 ⟨p1, c1, rfl, h1, hB1⟩; have HB1 : Hid (Below wr.heap.size wr w1) := hide ((below_drew wr).trans hB1); have HS1 := hide h1; clear h1 hB1)
          | (go_at_call_of 18 vr; refine (unhide HC2 _ ?_).mono ?_; (exact (unhide HBw).trans ((unhide HB1).mono (unhide HBw).size)); rintro e w2 ⟨p2, c2, rfl, h2, hB2⟩; have HB2 : Hid (Below wr.heap.size wr w2) := hide ((unhide HB1).trans (hB2.mono (unhide HB1).size)); have HS2 := hide h2; have HB12 := hide hB2; clear h2 hB2;
             have Hrow2 := hide ((unhide Hrow).below (unhide HB2));
             have Hlk : k < Z.length := (by rw [unhide HlenN]; exact hlt);
             obtain ⟨u0, hu0, hf0⟩ := (unhide Hrow2).cells (k * 4) (by omega);
             obtain ⟨u1, hu1, hf1⟩ := (unhide Hrow2).cells (k * 4 + 1) (by omega);
             obtain ⟨u2, hu2, hf2⟩ := (unhide Hrow2).cells (k * 4 + 2) (by omega);
             obtain ⟨u3, hu3, hf3⟩ := (unhide Hrow2).cells (k * 4 + 3) (by omega);
             have Hlk' := hide Hlk; clear Hlk))
      go_wp2
      go_roundw
      case rel => exact ⟨k + 1, by omega, by go_num, (unhide Hrow2).step (unhide Hlk') (unhide Hz) (((unhide HS1).le fun b _ h => by have := (unhide HB1).size; simp at h ⊢; omega).below (unhide HB12)) ((unhide HS2).le fun b _ h => by have := (unhide HB1).size; simp at h ⊢; omega)⟩
      case measure => simp [intOf]; omega
    · have hkn : k = n := by omega
      subst hkn
      have hBw : Below w.heap.size w wr := by obtain ⟨_, _, _, h, _⟩ := hrow; exact h
      have HD : Hid (CopyZPost Z w (.returned (.slice (some ⟨w.heap.size, 0, none⟩) k k)) wr) := hide ⟨_, rfl, by subst hN; exact hrow.done _, hBw⟩
      clear hrow hN HZ Hs hBw
      go_wp2
      go_ret
      exact unhide HD

set_option maxHeartbeats 400000 in
theorem copy17_nil (n c : Nat) (w : World) : Calls Tryd.prog 17 #[.slice none n c] w fun e w' => e = .returned (.slice none 0 0) ∧ w' = w := by
  have q22 : ∀ (w : World) (a : Option Addr) (n c n' c' : Nat), (binOp .eql 26 (.slice a n c) (.slice none n' c')).run Tryd.prog w = .ok (.bool a.isNone) w := fun w a n c n' c' => Lib.run_eql_slice_nil w _ _ a n c n' c' Tryd.underlying26
  go_enter Tryd.func17, Tryd.ntmps17
  go_wp2
  go_ret
  exact ⟨rfl, rfl⟩

/-- zzCopyStmts. -/
theorem copy17 (v : Value) (Z : List ZS) (w : World) (hZ : SmallZ Z) (hs : Zs w v Z) : Calls Tryd.prog 17 #[v] w (CopyZPost Z w) := by
  obtain ⟨p, c, rfl, hs⟩ := hs
  cases p with
  | some a => exact copy17_some a c Z w hZ hs
  | none =>
    have h0 : Z = [] := by
      cases Z with
      | nil => rfl
      | cons x xs => obtain ⟨b, o, h, _⟩ := hs (by simp); cases h
    subst h0
    exact (copy17_nil 0 c w).mono fun e w' ⟨he, hw⟩ => ⟨_, he, ⟨none, 0, rfl, fun h => absurd h (Nat.lt_irrefl 0)⟩, by rw [hw]; exact Below.refl _ _⟩

end Go.Proofs.Qxb6000393aDoor
