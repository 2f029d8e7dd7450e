/-
  drainLines, walked.
-/
import Derived.Test.Qxb6000583aDoorInv
import Derived.OwnWalk
namespace Go.Proofs.Qxb6000583aDoor
open Go.RowKit

def bytesV (f : Nat → Int) (m : Nat) : List Value := (List.range m).map fun j => Value.int .u8 (f j)
theorem bytesV_at (f : Nat → Int) (m j : Nat) (h : j < m) : (bytesV f m)[j]? = some (.int .u8 (f j)) := by simp [bytesV, h]
theorem bytesV_succ (f : Nat → Int) (m : Nat) : bytesV f (m + 1) = bytesV f m ++ [.int .u8 (f m)] := by simp [bytesV, List.range_succ]

/-- A buffer that owns its bytes, opened. -/
theorem buf_open {w : World} {B : Nat} {vb : Value} {m : Nat} {f : Nat → Int} (h : w.ownsRow B 5 1 vb m (bytesV f m)) :
    ∃ p c, vb = .slice p m c ∧ m ≤ c ∧ Seg w p m f ∧ (p = none → m = 0 ∧ c = 0) ∧ (0 < m → ∃ g, p = some ⟨g, 0, none⟩ ∧ g < w.heap.size) := by
  rcases h.2 with ⟨rfl, rfl⟩ | ⟨g, cap, cur, rfl, _, hg, hc, _⟩
  · exact ⟨none, 0, rfl, Nat.le_refl _, Seg.zero _ _ _, fun _ => ⟨rfl, rfl⟩, fun h => absurd h (Nat.lt_irrefl 0)⟩
  · refine ⟨_, cap, rfl, hc, fun _ => ⟨g, 0, rfl, fun j hj => ?_⟩, (fun h => by cases h), fun _ => ⟨g, rfl, lt_of_block hg⟩⟩
    rw [Nat.zero_add, h.cellAt j (by omega), bytesV_at f m j hj]

theorem cell_new_at (w : World) (x : Value) (t : TypeId) (g : Nat) (hg : g = w.heap.size) : ∀ (j : Nat) (u : Value), [x][j]? = some u → (w.alloc (.cells #[x] t)).cell? ((⟨g, 0, none⟩ : Addr).add j) = some u := by
  subst hg; exact cell_one_new w x t

theorem Tryd.info22 : (Tryd.prog.info? 22).map (fun i => (i.zero, i.size, i.bytes)) = some (some (.slice none 0 0), 1, 24) := by kernel_rfl

/-- The reading's state behind so many lines. -/
def Read (w2 : World) (vb : Value) (f : Nat → Int) (N m pos sc : Nat) (vg : Value) (G : List (Nat × Nat)) (w : World) : Prop :=
  Got w2.heap.size vb f vg G w ∧ Chain f N 0 G pos ∧ pos + sc ≤ m ∧ (∀ j, pos ≤ j → j < pos + sc → ¬ isE (f j)) ∧ Below w2.heap.size w2 w

def DrainPost (w2 : World) (vb : Value) (f : Nat → Int) (N m : Nat) (final : Bool) (w : World) (e : Ending) (w' : World) : Prop :=
  ∃ (vg' : Value) (G' : List (Nat × Nat)) (pos' sc' : Nat), e = .returned (.tuple #[vg', .int .i64 pos', .int .i64 sc']) ∧ Read w2 vb f N m pos' sc' vg' G' w' ∧ (final = true → ∀ j, pos' ≤ j → j < m → ¬ isE (f j)) ∧
    (∀ g, vb.ownBlock = some g → w'.heap[g]? = w.heap[g]?)

theorem heap_old (w : World) (o : Obj) (b : Nat) (h : b < w.heap.size) : (w.alloc o).heap[b]? = w.heap[b]? := Below.heap_alloc w o b h

/-- One line more, outside the walk. -/
theorem drain_step {w2 wr w3 w5 : World} {f : Nat → Int} {N m c P i g g4 cap4 : Nat} {vd : Value} {G : List (Nat × Nat)} {vs : List Value} {w : World}
    (hB3 : Below wr.heap.size wr w3) (hB23 : Below w2.heap.size w2 w3) (hgl : g < wr.heap.size) (hown : wr.ownsRow w2.heap.size 5 1 (.slice (some ⟨g, 0, none⟩) m c) m (bytesV f m))
    (hk3 : ∀ g_1, (Value.slice (some ⟨g, 0, none⟩) m c).ownBlock = some g_1 → w3.heap[g_1]? = w.heap[g_1]?)
    (ho1 : w3.ownsRow w2.heap.size 22 1 vd G.length vs) (ho2 : ∀ (k : Nat) (v : Value) (l : Nat × Nat), vs[k]? = some v → G[k]? = some l → LineAt w3 (.slice (some ⟨g, 0, none⟩) m c) f v l)
    (ho5 : w5.ownsRow w2.heap.size 22 1 (.slice (some ⟨g4, 0, none⟩) (G.length + 1) cap4) (G.length + 1) (vs ++ [.slice (some ⟨w3.heap.size, 0, none⟩) (i - P) (i - P)]))
    (hg5 : ((w3.alloc (.cells (clo (fun j => f (P + j)) (i - P) (i - P)) 5)).alloc (.cells #[.slice (some ⟨w3.heap.size, 0, none⟩) (i - P) (i - P)] 22)).grownBy w5 vd.ownBlock)
    (hC : Chain f N 0 G P) (hPi : P ≤ i) (him : i + wid f N i ≤ m) (hiN : i < N) (hE : isE (f i)) (hall : ∀ j, P ≤ j → j < i → ¬ isE (f j)) :
    Read w2 (.slice (some ⟨g, 0, none⟩) m c) f N m (i + wid f N i) 0 (.slice (some ⟨g4, 0, none⟩) (G.length + 1) cap4) (G ++ [(P, i)]) w5 ∧
    w5.ownsRow w2.heap.size 5 1 (.slice (some ⟨g, 0, none⟩) m c) m (bytesV f m) ∧ (∀ g_1, (Value.slice (some ⟨g, 0, none⟩) m c).ownBlock = some g_1 → w5.heap[g_1]? = w.heap[g_1]?) := by
  have hs3 := hB3.size
  have hs2 := hB23.size
  have ho1W := (ho1.alloc (.cells (clo (fun j => f (P + j)) (i - P) (i - P)) 5)).alloc (.cells #[.slice (some ⟨w3.heap.size, 0, none⟩) (i - P) (i - P)] 22)
  have hown3 : w3.ownsRow w2.heap.size 5 1 (.slice (some ⟨g, 0, none⟩) m c) m (bytesV f m) := hown.kept (row := none) ⟨hB3.os, hB3.tape, hB3.output, hB3.size, fun k hk _ => hB3.block k hk⟩ (Or.inr (by simp [Value.ownBlock]))
  have hownW := (hown3.alloc (.cells (clo (fun j => f (P + j)) (i - P) (i - P)) 5)).alloc (.cells #[.slice (some ⟨w3.heap.size, 0, none⟩) (i - P) (i - P)] 22)
  have hap : (Value.slice (some ⟨g, 0, none⟩) m c).ownBlock = none ∨ (Value.slice (some ⟨g, 0, none⟩) m c).ownBlock ≠ vd.ownBlock := rows_apart (by decide) hownW ho1W
  have hblk : ∀ b, b < w3.heap.size → ((w3.alloc (.cells (clo (fun j => f (P + j)) (i - P) (i - P)) 5)).alloc (.cells #[.slice (some ⟨w3.heap.size, 0, none⟩) (i - P) (i - P)] 22)).heap[b]? = w3.heap[b]? := fun b hb => by
    rw [heap_old _ _ b (by simp; omega), heap_old _ _ b hb]
  have h2W : ∀ (k : Nat) (v : Value) (l : Nat × Nat), vs[k]? = some v → G[k]? = some l → LineAt ((w3.alloc (.cells (clo (fun j => f (P + j)) (i - P) (i - P)) 5)).alloc (.cells #[.slice (some ⟨w3.heap.size, 0, none⟩) (i - P) (i - P)] 22)) (.slice (some ⟨g, 0, none⟩) m c) f v l := fun k v l hv hl =>
    (ho2 k v l hv hl).keep (by simp; omega) fun b hb hv _ => ⟨hblk b hb, hv⟩
  have hn : LineAt ((w3.alloc (.cells (clo (fun j => f (P + j)) (i - P) (i - P)) 5)).alloc (.cells #[.slice (some ⟨w3.heap.size, 0, none⟩) (i - P) (i - P)] 22)) (.slice (some ⟨g, 0, none⟩) m c) f (.slice (some ⟨w3.heap.size, 0, none⟩) (i - P) (i - P)) (P, i) := by
    refine ⟨w3.heap.size, rfl, ?_, by simp only [World.size_alloc]; omega, ?_⟩
    · simp only [Value.ownBlock, ne_eq, Option.some.injEq]; omega
    · rw [heap_old _ _ _ (by simp)]
      exact heap_alloc_new w3 _
  have hB5 : Below w2.heap.size w2 w5 := ((hB23.alloc hs2 _).alloc (by simp; omega) _).grown hg5 (by simp; omega) (fun k hk => (ho1W.lt k hk).1)
  refine ⟨⟨Got.push ho1W h2W hn ho5 hg5, hC.snoc hPi hiN hE hall, by omega, fun j h1 h2 => by omega, hB5⟩, hownW.kept hg5 hap, fun g1 hg1 => ?_⟩
  have hg1' : g = g1 := by simpa [Value.ownBlock] using hg1
  subst hg1'
  rw [hg5.block g (by simp; omega) (fun e => by
    rcases hap with h | h
    · simp [Value.ownBlock] at h
    · exact h (by rw [← e]; rfl)), hblk g (by omega)]
  exact hk3 g hg1

set_option maxRecDepth 100000 in
set_option maxHeartbeats 4000000 in
theorem drain_any (p : Option Addr) (m c N pos sc : Nat) (final : Bool) (f : Nat → Int) (vg : Value) (G : List (Nat × Nat)) (w2 w : World) (hN : N ≤ 65536) (hmN : m ≤ N) (hf : ∀ j, j < N → 0 ≤ f j ∧ f j ≤ 255) (hT : Tabs w2) (hfin : final = true → m = N)
    (hown : w.ownsRow w2.heap.size 5 1 (.slice p m c) m (bytesV f m)) (hR : Read w2 (.slice p m c) f N m pos sc vg G w) :
    Calls Tryd.prog 8 #[.slice p m c, .int .i64 pos, .int .i64 sc, .bool final, vg] w (DrainPost w2 (.slice p m c) f N m final w) := by
  obtain ⟨i0, hi, hz0, hz1, hz2⟩ := info_parts Tryd.info22
  have Hf := hide hf
  have HT := hide hT
  have Hfin := hide hfin
  have Hown := hide hown
  have HR := hide hR
  clear hf hT hfin hown hR
  go_enter Tryd.func8, Tryd.ntmps8
  go_wp2
  go_loopw [1, 2, 4, 13] (fun a b d s wr => ∃ (P S t : Nat) (G : List (Nat × Nat)) (vg : Value), vg = d ∧ a = .int .i64 P ∧ b = .int .i64 S ∧ s = .int .i64 t ∧ t ≤ P ∧ Read w2 (.slice p m c) f N m P S vg G wr ∧ wr.ownsRow w2.heap.size 5 1 (.slice p m c) m (bytesV f m) ∧ (∀ g, (Value.slice p m c).ownBlock = some g → wr.heap[g]? = w.heap[g]?)) (fun _ _ _ s _ => m + 1 - (intOf s).toNat)
  case atStart => exact ⟨pos, sc, 0, G, vg, rfl, rfl, rfl, rfl, Nat.zero_le _, unhide HR, unhide Hown, fun _ _ => rfl⟩
  case round =>
    obtain ⟨P, S, t, G, vd, rfl, rfl, rfl, rfl, htP, hRd, hown, hkeep⟩ := hrel
    clear HR Hown
    obtain ⟨hGot, hCh, hPS, hnoS, hBw⟩ := hRd
    have hlen := hCh.le
    simp only [Nat.zero_add] at hlen
    obtain ⟨p', c', ev, hmc, hseg, hnil, hpg⟩ := buf_open hown
    cases ev
    have hZ := hide (zz_any p m c P S final f wr (by omega) hmc (by omega) (by omega) hseg (fun j hj => unhide Hf j (by omega)) ((unhide HT).below hBw))
    have htm : (t : Int) ≤ (m : Int) := by omega
    have Hown := hide hown
    have Hseg := hide hseg
    have HG := hide hGot
    have HC := hide hCh
    have HnoS := hide hnoS
    have Hkeep := hide hkeep
    have Hpg := hide hpg
    clear hown hseg hGot hCh hnoS hkeep hnil hpg
    go_wp2_with fail
    refine (unhide hZ).mono ?_
    rintro e w3 ⟨q', L, C, ok, np, ns, rfl, hLS, hB3⟩
    clear hZ
    have hB23 : Below w2.heap.size w2 w3 := hBw.trans (hB3.mono hBw.size)
    have hk3 : Hid (∀ g, (Value.slice p m c).ownBlock = some g → w3.heap[g]? = w.heap[g]?) := fun g hg => by
      rw [hB3.block g ((unhide Hown).lt g hg).2]
      exact unhide Hkeep g hg
    rcases hLS with ⟨rfl, rfl, rfl, rfl, rfl, rfl, hno⟩ | ⟨rfl, rfl, rfl, rfl, rfl, rfl, i, hi1, hi2, hi3, hno, rfl⟩ | ⟨rfl, rfl, i, hi1, hi2, hE, hno, hw, rfl, rfl, rfl, rfl⟩
    · have Hno := hide hno
      clear hno
      go_wp2
      go_ret3
      have hall : ∀ j, np ≤ j → j < m → ¬ isE (f j) := fun j h1 h2 => by
        by_cases hj : j < np + S
        · exact unhide HnoS j h1 hj
        · exact unhide Hno j (by omega) h2
      exact ⟨vd, G, np, m - np, rfl, ⟨(unhide HG).below hB3, unhide HC, by omega, fun j h1 h2 => hall j h1 (by omega), hB23⟩, fun _ => hall, unhide hk3⟩
    · have Hno := hide hno
      clear hno
      go_wp2
      go_ret3
      have hall : ∀ j, np ≤ j → j < i → ¬ isE (f j) := fun j h1 h2 => by
        by_cases hj : j < np + S
        · exact unhide HnoS j h1 hj
        · exact unhide Hno j (by omega) h2
      exact ⟨vd, G, np, i - np, rfl, ⟨(unhide HG).below hB3, unhide HC, by omega, fun j h1 h2 => hall j h1 (by omega), hB23⟩, fun h => (by cases h), unhide hk3⟩
    · have hP : P < m := by omega
      obtain ⟨g, rfl, hgl⟩ := unhide Hpg (by omega)
      have hwd : Hid (wid f m i = wid f N i) := wid_of f m N i hmN hi2 (fun h => hw ⟨h.1, h.2.1, by
        cases final
        · rfl
        · have := unhide Hfin rfl; omega⟩)
      have hall : Hid (∀ j, P ≤ j → j < i → ¬ isE (f j)) := fun j h1 h2 => by
        by_cases hj : j < P + S
        · exact unhide HnoS j h1 hj
        · exact hno j (by omega) h2
      have Hi : Hid (P ≤ i) := by show P ≤ i; omega
      have HE := hide hE
      rw [subp_some (by omega), Nat.zero_add]
      have hsg : Seg w3 (some ⟨g, P, none⟩) (i - P) (fun j => f (P + j)) := by
        have := (unhide Hseg).sub (l := P) (m := c) (by omega) hmc
        rw [subp_some (by omega), Nat.zero_add] at this
        exact (this.take (by omega)).below hB3
      have hCl := hide (cloneBytes_some ⟨g, P, none⟩ (i - P) (c - P) (fun j => f (P + j)) w3 (by omega) hsg)
      obtain ⟨vs, ho1, ho2⟩ := (unhide HG).below hB3
      have Ho1 := hide ho1
      have Ho2 := hide ho2
      have HS3 := hB3.size
      clear hno hw hE hsg ho1 ho2 HG Hseg Hkeep Hpg hi1 hPS HnoS
      go_wp2_with fail
      refine (unhide hCl).mono ?_
      rintro e w4 ⟨rfl, rfl⟩
      clear hCl
      have hsz2 := hB23.size
      go_wp2_with (at_builtin; refine wpList_append_lies _ rfl (.tmp 38) (.tmp 41) 27 rfl w2.heap.size 22 i0 (.slice none 0 0) 1 24 Tryd.underlying27 hi hz0 hz1 hz2 rfl (by decide) vd G.length vs rfl (((unhide Ho1).alloc _).alloc _) ⟨w3.heap.size + 1, 0, none⟩ 1 1 [.slice (some ⟨w3.heap.size, 0, none⟩) (i - P) (i - P)] rfl rfl (by exact cell_new_at _ _ _ _ (by simp)) (fun u hu => by simp at hu; subst hu; rfl) (by decide) (by unfold maxLen; omega) (by omega) (by simp; omega) _ rfl ?_; intro g4 cap4 w5 ho5 hg5 hgg5 hlt5)
      have hwm := wid_le f m i hi2
      have hwp := (wid_pos f m i).1
      rw [unhide hwd] at hwm hwp
      obtain ⟨R1, R2, R3⟩ := drain_step hB3 hB23 hgl (unhide Hown) (unhide hk3) (unhide Ho1) (unhide Ho2) ho5 hg5 (unhide HC) (unhide Hi) hwm (by omega) (unhide HE) (unhide hall)
      go_roundw
      case rel => exact ⟨i + wid f N i, 0, t + 1, G ++ [(P, i)], _, rfl, by rw [unhide hwd]; simp, rfl, by go_num, by have := unhide Hi; omega, R1, R2, R3⟩
      case measure => simp [intOf]; omega

end Go.Proofs.Qxb6000583aDoor
