/-
  Rows that grow; zzStatementsOf, walked.
-/
import Derived.Test.Qxb6000393aDoorCopyZ
namespace Go.Proofs.Qxb6000393aDoor
open Go.RowKit

theorem own_keep {w w' : World} {B s : Nat} {e : TypeId} {v : Value} {n : Nat} {xs : List Value} (h : w.ownsRow B e s v n xs) (hk : ∀ g cs, v.ownBlock = some g → B ≤ g → w.heap[g]? = some (.cells cs e (0, 0)) → w'.heap[g]? = w.heap[g]?) : w'.ownsRow B e s v n xs := by
  refine ⟨h.1, ?_⟩
  rcases h.2 with h | ⟨g, cap, cur, rfl, h1, h2, h3⟩
  · exact Or.inl h
  · exact Or.inr ⟨g, cap, cur, rfl, h1, by rw [hk g cur rfl h1 h2]; exact h2, h3⟩
theorem own_below {w w' : World} {B s : Nat} {e : TypeId} {v : Value} {n : Nat} {xs : List Value} (h : w.ownsRow B e s v n xs) (hB : Below w.heap.size w w') : w'.ownsRow B e s v n xs :=
  own_keep h fun g _ _ _ h2 => hB.block g (Array.getElem?_eq_some_iff.1 h2).1
/-- The row's own block, its type known. -/
theorem own_tag {w : World} {B s : Nat} {e : TypeId} {v : Value} {n : Nat} {xs : List Value} (h : w.ownsRow B e s v n xs) {g : Nat} (hg : v.ownBlock = some g) : B ≤ g ∧ ∃ cs, w.heap[g]? = some (.cells cs e (0, 0)) := by
  rcases h.2 with ⟨rfl, _⟩ | ⟨g', cap, cur, rfl, h1, h2, h3⟩
  · cases hg
  · cases hg; exact ⟨h1, cur, h2⟩
theorem row_form' {w : World} {B s : Nat} {e : TypeId} {v : Value} {n : Nat} {xs : List Value} (h : w.ownsRow B e s v n xs) : ∃ p c, v = .slice p n c ∧ (0 < n → ∃ g cs, B ≤ g ∧ p = some ⟨g, 0, none⟩ ∧ w.heap[g]? = some (.cells cs e (0, 0)) ∧ ∀ t, t < n * s → cs[t]? = xs[t]?) := by
  rcases h.2 with ⟨rfl, rfl⟩ | ⟨g, cap, cur, rfl, h1, h2, h3, h4, h5, h6⟩
  · exact ⟨none, 0, rfl, fun h => absurd h (Nat.lt_irrefl 0)⟩
  · exact ⟨_, cap, rfl, fun _ => ⟨g, cur, h1, rfl, h2, fun t ht => by rw [← h6, List.getElem?_take_of_lt ht]; simp⟩⟩
theorem cells_new (w : World) (cs : List Value) (t : TypeId) (g : Nat) (hg : g = w.heap.size) : ∀ (j : Nat) (u : Value), cs[j]? = some u → (w.alloc (.cells cs.toArray t)).cell? ((⟨g, 0, none⟩ : Addr).add j) = some u := by
  subst hg
  intro j u hu
  rw [add_pl, Nat.zero_add, cell_of_row _ _ _ _ _ _ (heap_alloc_new w (.cells cs.toArray t))]
  simpa using hu
theorem grown_of_alloc {w w' : World} {o : Obj} {row : Option Nat} (h : (w.alloc o).grownBy w' row) : w.grownBy w' row := by
  have hs := h.size
  simp at hs
  refine ⟨h.1, h.2, h.3, by omega, fun k hk hne => ?_⟩
  rw [h.block k (by simp; omega) hne, Below.heap_alloc _ _ _ hk]

theorem flat_at {α : Type} (f : α → List Value) (s : Nat) (hf : ∀ a, (f a).length = s) : ∀ (K : List α) (j i : Nat), i < s → (K.flatMap f)[j * s + i]? = (K[j]?).bind fun d => (f d)[i]?
  | [], j, i, _ => by simp
  | d :: K, 0, i, h => by
    rw [List.flatMap_cons, Nat.zero_mul, Nat.zero_add, List.getElem?_append_left (by rw [hf]; exact h)]
    rfl
  | d :: K, j + 1, i, h => by
    have e : (j + 1) * s + i = s + (j * s + i) := by rw [Nat.add_mul, Nat.one_mul]; omega
    rw [List.flatMap_cons, e, List.getElem?_append_right (by rw [hf]; omega), hf, Nat.add_sub_cancel_left, flat_at f s hf K j i h]
    rfl

/-- A statement of the indexed rules: its place, effect, action patterns, resource patterns. -/
abbrev PS := Nat × Nat × Int × List (List UInt8) × List (List UInt8)
def PS.ok (w : World) (s : PS) : Prop := StAt w s.1 s.2.1 s.2.2.1 s.2.2.2.1 s.2.2.2.2
theorem PS.ok.below {w w' : World} {s : PS} (h : PS.ok w s) (hB : Below w.heap.size w w') : PS.ok w' s := StAt.below h hB

/-- The statements lie in a slice, three cells each. -/
def Sts (w : World) (v : Value) (Z : List ZS) : Prop := ∃ p c, v = .slice p Z.length c ∧ (0 < Z.length → ∃ b o, p = some ⟨b, o, none⟩ ∧ ∀ j, j < Z.length → StAt w b (o + j * 3) (Z[j]?.getD z0).1 (Z[j]?.getD z0).2.1 (Z[j]?.getD z0).2.2.1)

/-- One statement copied: its two slices, its text. -/
abbrev KS := Value × Value × ZS
def KS.cells (d : KS) : List Value := [.int .i64 d.2.2.1, d.1, d.2.1]
def KRow (B : Nat) (w : World) (v : Value) (Z : List ZS) (wr : World) : Prop :=
  ∃ K : List KS, K.map (·.2.2) = Z ∧ wr.ownsRow B 69 3 v Z.length (K.flatMap KS.cells) ∧ Below B w wr ∧ ∀ d ∈ K, StrsB (B ≤ ·) wr d.1 d.2.2.2.1 ∧ StrsB (B ≤ ·) wr d.2.1 d.2.2.2.2.1
theorem KRow.below {B : Nat} {w : World} {v : Value} {Z : List ZS} {wr wr' : World} (h : KRow B w v Z wr) (hb : B ≤ wr.heap.size) (hB : Below wr.heap.size wr wr') : KRow B w v Z wr' := by
  obtain ⟨K, h1, h2, h3, h4⟩ := h
  exact ⟨K, h1, own_below h2 hB, h3.trans (hB.mono hb), fun d hd => ⟨(h4 d hd).1.below hB, (h4 d hd).2.below hB⟩⟩
theorem KRow.own {B : Nat} {w : World} {v : Value} {Z : List ZS} {wr : World} (h : KRow B w v Z wr) : ∃ xs, wr.ownsRow B 69 3 v Z.length xs ∧ ∀ (ez : Int) (Az Rz : List (List UInt8)) (pz : Nat) (va vr v' : Value) (o : Obj) (w5 : World), B ≤ wr.heap.size → StrsB (B ≤ ·) wr va Az → StrsB (B ≤ ·) wr vr Rz →
    w5.ownsRow B 69 3 v' (Z.length + 1) (xs ++ [.int .i64 ez, va, vr]) → (wr.alloc o).grownBy w5 v.ownBlock → KRow B w v' (Z ++ [(ez, Az, Rz, pz)]) w5 := by
  obtain ⟨K, h1, h2, h3, h4⟩ := h
  refine ⟨_, h2, fun ez Az Rz pz va vr v' o w5 hb ha hr ho hg => ?_⟩
  have hg' := grown_of_alloc hg
  have hk : ∀ (b : Nat) (cs : Array Value), B ≤ b → wr.heap[b]? = some (.cells cs 9 (0, 0)) → w5.heap[b]? = wr.heap[b]? := fun b cs _ hc => hg'.block b (Array.getElem?_eq_some_iff.1 hc).1 fun e => by
    obtain ⟨_, cs', hc'⟩ := own_tag h2 e.symm
    rw [hc] at hc'
    cases hc'
  refine ⟨K ++ [(va, vr, (ez, Az, Rz, pz))], by simp [h1], ?_, h3.grown hg' hb fun k hk => (own_tag h2 hk).1, fun d hd => ?_⟩
  · rw [List.length_append, List.flatMap_append]
    simpa [KS.cells] using ho
  · rcases List.mem_append.1 hd with hd | hd
    · exact ⟨(h4 d hd).1.keep hk, (h4 d hd).2.keep hk⟩
    · rw [List.mem_singleton] at hd
      subst hd
      exact ⟨ha.keep hk, hr.keep hk⟩
theorem KRow.done {B : Nat} {w : World} {v : Value} {Z : List ZS} {wr : World} (h : KRow B w v Z wr) : Sts wr v Z := by
  obtain ⟨K, h1, h2, h3, h4⟩ := h
  obtain ⟨p, c, rfl, h5⟩ := row_form' h2
  refine ⟨p, c, rfl, fun h0 => ?_⟩
  obtain ⟨g, cs, _, hp, hg, hcs⟩ := h5 h0
  refine ⟨g, 0, hp, fun j hj => ?_⟩
  have hjK : j < K.length := by rw [← h1, List.length_map] at hj; exact hj
  have hZ : Z[j]?.getD z0 = (K[j]).2.2 := by rw [← h1, List.getElem?_map, List.getElem?_eq_getElem hjK]; rfl
  have hf : ∀ i, i < 3 → wr.cell? ⟨g, 0 + j * 3 + i, none⟩ = (KS.cells K[j])[i]? := fun i hi => by
    rw [cell_of_row _ _ _ _ _ _ hg, Nat.zero_add, hcs _ (by omega), flat_at KS.cells 3 (fun _ => rfl) K j i hi, List.getElem?_eq_getElem hjK]
    rfl
  have hm := h4 _ (List.getElem_mem hjK)
  rw [hZ]
  exact ⟨_, _, hf 0 (by decide), hf 1 (by decide), hf 2 (by decide), hm.1.strs, hm.2.strs⟩

/-- P holds of the world, whatever becomes of the rows of rules. -/
def Fr (w : World) (P : World → Prop) : Prop := ∀ w' : World, w.heap.size ≤ w'.heap.size → (∀ (b : Nat) (o : Obj), w.heap[b]? = some o → (∀ cs, o ≠ Obj.cells cs 53 (0, 0)) → w'.heap[b]? = w.heap[b]?) → P w'
theorem Fr.here {w : World} {P : World → Prop} (h : Fr w P) : P w := h w (Nat.le_refl _) fun _ _ _ _ => rfl
theorem Fr.step {w w1 : World} {P : World → Prop} (h : Fr w P) (hs : w.heap.size ≤ w1.heap.size) (hk : ∀ (b : Nat) (o : Obj), w.heap[b]? = some o → (∀ cs, o ≠ Obj.cells cs 53 (0, 0)) → w1.heap[b]? = w.heap[b]?) : Fr w1 P := fun w' hs' hk' => h w' (by omega) fun b o hb hno => by
  have e := hk b o hb hno
  rw [hk' b o (e.trans hb) hno, e]
theorem Fr.below {w w1 : World} {P : World → Prop} (h : Fr w P) (hB : Below w.heap.size w w1) : Fr w1 P := h.step hB.size fun b _ hb _ => hB.block b (Array.getElem?_eq_some_iff.1 hb).1
theorem KRow.fr {B : Nat} {w : World} {v : Value} {Z : List ZS} {wr : World} (h : KRow B w v Z wr) : Fr wr fun w' => Sts w' v Z := fun w' _ hk => by
  obtain ⟨K, h1, h2, h3, h4⟩ := h
  have h' : KRow B w' v Z w' := ⟨K, h1, own_keep h2 fun g cs _ _ hg => hk g _ hg fun _ e => (by cases e), Below.refl _ _, fun d hd => ⟨(h4 d hd).1.keep fun b cs _ hb => hk b _ hb fun _ e => (by cases e), (h4 d hd).2.keep fun b cs _ hb => hk b _ hb fun _ e => (by cases e)⟩⟩
  exact h'.done

theorem Tryd.info69 : (Tryd.prog.info? 69).map (fun i => (i.zero, i.size, i.bytes)) = some (some (.agg #[.int .i64 0, .slice none 0 0, .slice none 0 0]), 3, 56) := by kernel_rfl

/-- The statements of one part. -/
def ofPart (Z : List ZS) (q : Nat) : List ZS := Z.filter fun z => z.2.2.2 % 3 == q
theorem ofPart_take (Z : List ZS) (q k : Nat) (h : k < Z.length) {ez : Int} {Az Rz : List (List UInt8)} {pz : Nat} (hz : Z[k]?.getD z0 = (ez, Az, Rz, pz)) : ofPart (Z.take (k + 1)) q = if pz % 3 = q then ofPart (Z.take k) q ++ [(ez, Az, Rz, pz)] else ofPart (Z.take k) q := by
  rw [List.getElem?_eq_getElem h] at hz
  have hz' : Z[k] = (ez, Az, Rz, pz) := hz
  rw [List.take_succ_eq_append_getElem h, hz']
  unfold ofPart
  rw [List.filter_append]
  by_cases hq : pz % 3 = q
  · rw [if_pos hq]; simp [hq]
  · rw [if_neg hq]; simp [hq]
theorem ofPart_len (Z : List ZS) (q k : Nat) : (ofPart (Z.take k) q).length ≤ Z.length := Nat.le_trans (List.length_filter_le _ _) (by rw [List.length_take]; omega)

def StOfPost (Z : List ZS) (q : Nat) (w : World) (e : Ending) (w' : World) : Prop := ∃ p c, e = .returned (.slice p (ofPart Z q).length c) ∧ Fr w' (fun w'' => Sts w'' (.slice p (ofPart Z q).length c) (ofPart Z q)) ∧ Below w.heap.size w w'

set_option maxRecDepth 100000 in
set_option maxHeartbeats 4000000 in
/-- zzStatementsOf. -/
theorem stof36 (v0 : Value) (q : Nat) (Z : List ZS) (w : World) (hq : q < 3) (hZ : SmallZ Z) (hs : Zs w v0 Z) (hp : ∀ z ∈ Z, z.2.2.2 < 256) : Calls Tryd.prog 36 #[v0, .int .i64 (q : Int), .int .i64 3] w (StOfPost Z q w) := by
  obtain ⟨p0, c0, rfl, hs⟩ := hs
  obtain ⟨i0, hi, hz0, hz1, hz2⟩ := info_parts Tryd.info69
  have Hs := hide hs
  have HZ := hide hZ
  have Hp := hide hp
  have hZn := hZ.1
  clear hs hZ hp
  generalize hN : Z.length = n at *
  have HlenN := hide hN
  clear hN
  go_enter Tryd.func36, Tryd.ntmps36
  go_wp2
  go_loopw [7, 8] (fun v i wr => ∃ k : Nat, k ≤ n ∧ i = .int .i64 k ∧ KRow w.heap.size w v (ofPart (Z.take k) q) wr) (fun _ i _ => n - (intOf i).toNat)
  case atStart => exact ⟨0, Nat.zero_le _, rfl, [], rfl, World.ownsRow_nil _ _ _ _, Below.refl _ _, fun d hd => absurd hd (by simp)⟩
  case round =>
    obtain ⟨k, hk, rfl, hrow⟩ := hrel
    have hle : w.heap.size ≤ wr.heap.size := by obtain ⟨_, _, _, h, _⟩ := hrow; exact h.size
    have hBw : Below w.heap.size w wr := by obtain ⟨_, _, _, h, _⟩ := hrow; exact h
    by_cases hlt : k < n
    · obtain ⟨b, o, rfl, hc⟩ := unhide Hs (by omega)
      have hlk : k < Z.length := by rw [unhide HlenN]; exact hlt
      have hzk := hc k hlt
      have hsm := (unhide HZ).at k hlk
      have hpz : (Z[k]?.getD z0).2.2.2 < 256 := by rw [List.getElem?_eq_getElem hlk]; exact unhide Hp _ (List.getElem_mem hlk)
      obtain ⟨⟨ez, Az, Rz, pz⟩, hz⟩ : ∃ z, Z[k]?.getD z0 = z := ⟨_, rfl⟩
      have htk := ofPart_take Z q k hlk hz
      rw [hz] at hzk hsm hpz
      simp only at hpz
      obtain ⟨va, vr, k0, k1, k2, k3, k4, k5⟩ := hzk
      have SK : Hid (∀ w', Below w.heap.size w w' → w'.cell? ⟨b, o + k * 4, none⟩ = some (.int .i64 ez) ∧ w'.cell? ⟨b, o + k * 4 + 1, none⟩ = some va ∧ w'.cell? ⟨b, o + k * 4 + 2, none⟩ = some vr) := hide fun w' h =>
        ⟨(h.cell (p := ⟨b, o + k * 4, none⟩) (World.block_lt_of_cell? _ _ k0)).trans k0, (h.cell (p := ⟨b, o + k * 4 + 1, none⟩) (World.block_lt_of_cell? _ _ k1)).trans k1, (h.cell (p := ⟨b, o + k * 4 + 2, none⟩) (World.block_lt_of_cell? _ _ k2)).trans k2⟩
      have kp := (hBw.cell (p := ⟨b, o + k * 4 + 3, none⟩) (World.block_lt_of_cell? _ _ k3)).trans k3
      have HC1 : Hid (∀ w', Below w.heap.size w w' → Calls Tryd.prog 18 #[va] w' (CopyPost Az w')) := hide fun w' h => copy18 va _ w' hsm.1.1 (k4.below h)
      have HC2 : Hid (∀ w', Below w.heap.size w w' → Calls Tryd.prog 18 #[vr] w' (CopyPost Rz w')) := hide fun w' h => copy18 vr _ w' hsm.2.1 (k5.below h)
      obtain ⟨r, hr⟩ : ∃ r, pz % 3 = r := ⟨_, rfl⟩
      have hrem : (pz : Int).tmod 3 = (r : Int) := by rw [← hr]; exact (Int.ofNat_tmod pz 3).symm
      rw [hr] at htk
      have Hrow := hide hrow
      have HBw := hide hBw
      have hml : (ofPart (Z.take k) q).length ≤ n := by have := ofPart_len Z q k; rw [unhide HlenN] at this; exact this
      clear hc k4 k5 hsm hrow k0 k1 k2 k3 hz Hs HZ Hp hBw hlk hr
      by_cases hrq : r = q
      · subst hrq
        rw [if_pos rfl] at htk
        have Htk := hide htk
        clear htk
        go_wp2_with fail
        generalize hm : (ofPart (Z.take k) r).length = m at hml
        have Hm := hide hm
        clear hm
        go_region_held3 (fun w' => w'.cell? ⟨b, o + k * 4, none⟩ = some (.int .i64 ez) ∧ w'.cell? ⟨b, o + k * 4 + 1, none⟩ = some va ∧ w'.cell? ⟨b, o + k * 4 + 2, none⟩ = some vr)
          (first | exact unhide SK _ (unhide HB5) | exact unhide SK _ ((unhide HW2).alloc (unhide HL2) _) | exact unhide SK _ (unhide HW2) | exact unhide SK _ (unhide HW1) | exact unhide SK _ ((unhide HBw).trans ((below_drew _).mono hle)))
          (first
            | (go_at_call_of 18 va; refine (unhide HC1 _ ?_).mono ?_; (exact (unhide HBw).trans ((below_drew _).mono hle)); rintro e w1 ⟨p1, c1, rfl, h1, hB1⟩; have HB1 : Hid (Below wr.heap.size wr w1) := hide ((below_drew wr).trans hB1); have HW1 : Hid (Below w.heap.size w w1) := hide ((unhide HBw).trans ((unhide HB1).mono hle)); have HS1 := hide h1; clear h1 hB1)
            | (go_at_call_of 18 vr; refine (unhide HC2 _ ?_).mono ?_; (exact unhide HW1); rintro e w2 ⟨p2, c2, rfl, h2, hB2⟩; have HB2 : Hid (Below wr.heap.size wr w2) := hide ((unhide HB1).trans (hB2.mono (unhide HB1).size)); have HW2 : Hid (Below w.heap.size w w2) := hide ((unhide HW1).trans (hB2.mono (unhide HW1).size)); have HS2 := hide h2; have HB12 := hide hB2; clear h2 hB2;
               have hL2 : w.heap.size ≤ w2.heap.size := (unhide HW2).size;
               have HL2 := hide hL2;
               obtain ⟨xs, hown, hcl⟩ := ((unhide Hrow).below hle (unhide HB2)).own;
               rw [unhide Hm] at hown;
               have Hown := hide hown; have Hcl := hide hcl; clear hown hcl)
            | (refine step_append_lies _ rfl (.tmp 25) (.tmp 44) 63 rfl w.heap.size 69 i0 _ 3 56 Tryd.underlying63 hi hz0 hz1 hz2 rfl (by decide) u7 m xs rfl (World.ownsRow.alloc (unhide Hown) _) ⟨w2.heap.size, 0, none⟩ 1 1 [.int .i64 ez, .slice p1 Az.length c1, .slice p2 Rz.length c2] rfl rfl (by exact cells_new _ [.int .i64 ez, .slice p1 Az.length c1, .slice p2 Rz.length c2] _ _ rfl) (fun u hu => by simp at hu; rcases hu with rfl | rfl | rfl <;> rfl) (by decide) (by unfold maxLen; omega) (by omega) (by simp; omega) _ rfl ?_; intro g5 cap5 w5 ho5 hg5 hgg5 hlt5;
               have HK5 := hide (unhide Hcl ez Az Rz pz _ _ _ _ w5 hL2 (((unhide HS1).le fun b _ h => by have := (unhide HW1).size; simp at h ⊢; omega).below (unhide HB12)) ((unhide HS2).le fun b _ h => by have := (unhide HW1).size; have := (unhide HB1).size; simp at h ⊢; omega) (by rw [unhide Hm]; exact ho5) hg5);
               have HB5 : Hid (Below w.heap.size w w5) := hide (by obtain ⟨_, _, _, h, _⟩ := unhide HK5; exact h);
               clear ho5 hg5 hgg5 hlt5))
        go_wp2
        go_roundw
        case rel => exact ⟨k + 1, by omega, by go_num, by rw [unhide Htk]; exact unhide HK5⟩
        case measure => simp [intOf]; omega
      · rw [if_neg hrq] at htk
        have Htk := hide htk
        clear htk
        go_wp2
        go_roundw
        case rel => exact ⟨k + 1, by omega, by go_num, by rw [unhide Htk]; exact unhide Hrow⟩
        case measure => simp [intOf]; omega
    · have hkn : k = n := by omega
      subst hkn
      rw [List.take_of_length_le (by rw [unhide HlenN]; exact Nat.le_refl _)] at hrow
      obtain ⟨p, c, rfl, _⟩ : ∃ p c, u7 = .slice p (ofPart Z q).length c ∧ True := by
        obtain ⟨_, _, h, _⟩ := hrow
        obtain ⟨p, c, h, _⟩ := row_form' h
        exact ⟨p, c, h, trivial⟩
      have HD : Hid (StOfPost Z q w (.returned (.slice p (ofPart Z q).length c)) wr) := hide ⟨p, c, rfl, hrow.fr, hBw⟩
      clear hrow HZ Hs Hp hBw
      go_wp2
      go_ret
      exact unhide HD

end Go.Proofs.Qxb6000393aDoor
