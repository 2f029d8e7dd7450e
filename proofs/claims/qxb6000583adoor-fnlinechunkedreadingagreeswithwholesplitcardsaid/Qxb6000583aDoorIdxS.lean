/-
  bytes.IndexAny(s, "\r\n") at a slice of two to eight bytes: each byte, or each rune beyond ASCII, by itself.
-/
import Derived.Test.Qxb6000583aDoorShelf
import Derived.Test.Qxb6000583aDoorTabs
import Derived.Test.Qxb6000583aDoorDec
import Derived.Test.Qxb6000583aDoorLine
import Derived.Lib.IndexEntry
import Derived.Lib.Bytealg
import Derived.Lib.IndexLaws
namespace Go.Proofs.Qxb6000583aDoor
open Go.RowKit

/-- utf8.DecodeRune at a byte beyond ASCII. -/
theorem dec_at (b o n c i : Nat) (f : Nat → Int) (w : World) (hT : Tabs w) (hs : ∀ j, j < n → w.cell? ⟨b, o + j, none⟩ = some (.int .u8 (f j))) (hf : ∀ j, j < n → 0 ≤ f j ∧ f j ≤ 255) (hi : i < n) (h8 : 128 ≤ f i) :
    Calls Tryd.prog 20 #[.slice (some ⟨b, o + i, none⟩) (n - i) c] w fun e w' => ∃ r k : Nat, e = .returned (.tuple #[.int .i32 r, .int .i64 k]) ∧ (1 ≤ k ∧ i + k ≤ n ∧ (∀ j, i ≤ j → j < i + k → 128 ≤ f j) ∧ 128 ≤ r ∧ r ≤ 1114111 ∧ k ≤ 4 ∧ (r = 65533 ∨ 2 ≤ k) ∧ (2 < k → 2048 ≤ r ∧ (k = 3 → r < 65536))) ∧ Below w.heap.size w w' := by
  obtain ⟨r, k, hd, hq⟩ := decGo f i n hi hf h8
  have C := Any7.utf8_DecodeRune Tryd.lays32 (bsOf f i n) b (o + i) c w hT.1 (fun j hj => by
    rw [bsOf_size] at hj
    rw [bsOf_get f i n j hj (hf _ (by omega)).1 (hf _ (by omega)).2, show o + i + j = o + (i + j) from by omega, hs (i + j) (by omega)]
    have := (hf (i + j) (by omega)).1
    congr 2
    omega)
  rw [bsOf_size, hd] at C
  exact C.mono fun e w' ⟨he, hB⟩ => ⟨r, k, he, hq, hB⟩

theorem ib_run (c : Int) (w : World) : (callFunc 15 #[.string ⟨#[13, 10]⟩, .int .u8 c]).run Tryd.prog w = .ok (.value (.int .i64 (Lib.indexByte [13, 10] c.toNat.toUInt8))) w := by
  rw [run_callFunc_extern Tryd.func15 (by kernel_rfl) (by kernel_rfl) (by kernel_rfl) (e := Extern.BytealgIndexByte.indexByte) (by kernel_rfl), Lib.run_indexByteString]
  rfl

theorem ib_no (c : Int) (h0 : 0 ≤ c) (h1 : c ≤ 255) (h : ¬ isE c) : Lib.indexByte [13, 10] c.toNat.toUInt8 = -1 := by
  have hn : c.toNat < 256 := by omega
  have h13 : c.toNat ≠ 13 := fun e => h (Or.inl (by omega))
  have h10 : c.toNat ≠ 10 := fun e => h (Or.inr (by omega))
  generalize c.toNat = m at hn h13 h10
  have key : ∀ m : Fin 256, m.1 ≠ 13 → m.1 ≠ 10 → Lib.indexByte [13, 10] m.1.toUInt8 = -1 := by decide +kernel
  exact key ⟨m, hn⟩ h13 h10


theorem next0 (w : World) (ty : TypeId) : (Instr.next (.pointer (some ⟨w.heap.size, 0, none⟩)) true ty).run Tryd.prog (w.iter ⟨#[13, 10]⟩ 0) = .ok (.tuple #[.bool true, .int .i64 0, .int .i32 13]) (w.iter ⟨#[13, 10]⟩ 1) :=
  run_next_ascii (P := Tryd.prog) w ⟨#[13, 10]⟩ 0 ty (by decide) (by decide)
theorem next1 (w : World) (ty : TypeId) : (Instr.next (.pointer (some ⟨w.heap.size, 0, none⟩)) true ty).run Tryd.prog (w.iter ⟨#[13, 10]⟩ 1) = .ok (.tuple #[.bool true, .int .i64 1, .int .i32 10]) (w.iter ⟨#[13, 10]⟩ 2) :=
  run_next_ascii (P := Tryd.prog) w ⟨#[13, 10]⟩ 1 ty (by decide) (by decide)
theorem next2 (w : World) (ty : TypeId) : (Instr.next (.pointer (some ⟨w.heap.size, 0, none⟩)) true ty).run Tryd.prog (w.iter ⟨#[13, 10]⟩ 2) = .ok (.tuple #[.bool false]) (w.iter ⟨#[13, 10]⟩ 2) :=
  run_next_end (P := Tryd.prog) w ⟨#[13, 10]⟩ 2 ty (by decide)

/-- bytealg.IndexString("\r\n", string(r)) where string(r) is longer. -/
theorem is_run (r wd : Nat) (m : Int) (w : World) (hm : w.cell? ⟨0, 0, none⟩ = some (.int .i64 m)) (hr : 2048 ≤ r) (h3 : 3 ≤ wd) (hr3 : wd = 3 → r < 65536) (hw : (wd : Int) ≤ m) :
    (callFunc 21 #[.string ⟨#[13, 10]⟩, .string (Utf8.encode (r : Int))]).run Tryd.prog w = .ok (.value (.int .i64 (-1))) w := by
  obtain ⟨z1, z2, z3⟩ := enc_size r hr
  rw [run_callFunc_extern Tryd.func21 (by kernel_rfl) (by kernel_rfl) (by kernel_rfl) (e := Extern.BytealgIndex.index) (by kernel_rfl),
    Lib.run_indexString _ _ w 0 m (by kernel_rfl) hm (by omega) (by by_cases h : wd = 3 <;> omega) (by decide)]
  have hl : (Utf8.encode (r : Int)).data.toList.length = (Utf8.encode (r : Int)).size := (Lib.size_eq _).symm
  generalize (Utf8.encode (r : Int)).data.toList = l at hl
  have hx : Lib.index [13, 10] l = -1 := Lib.index_long (by rw [hl]; exact Nat.le_trans (Nat.le_succ 2) z1) (fun e => by
    rw [e] at hl
    have : (2 : Nat) = (Utf8.encode (r : Int)).size := hl
    omega)
  show Result.andThen (Result.ok (Value.int .i64 (Lib.index [13, 10] l)) w) _ = _
  rw [hx]
  rfl

set_option maxRecDepth 100000 in
set_option maxHeartbeats 1600000 in
theorem idx_short (b o n c : Nat) (f : Nat → Int) (w : World) (h2 : 2 ≤ n) (h8 : n ≤ 8) (hc : n ≤ c) (hs : ∀ j, j < n → w.cell? ⟨b, o + j, none⟩ = some (.int .u8 (f j))) (hf : ∀ j, j < n → 0 ≤ f j ∧ f j ≤ 255) (hT : Tabs w) :
    Calls Tryd.prog 14 #[.slice (some ⟨b, o, none⟩) n c, .string ⟨#[13, 10]⟩] w (IdxPost f n w) := by
  have hn1 : ((n : Int) == 1) = false := beq_eq_false_iff_ne.2 (by omega)
  have h8z : decide ((8 : Int) < (n : Int)) = false := decide_eq_false (by omega)
  have hb : b < w.heap.size := World.block_lt_of_cell? _ _ (hs 0 (by omega))
  have Hs := hide hs
  have Hf := hide hf
  have HT := hide hT
  clear hs hf hT
  go_enter Tryd.func14, Tryd.ntmps14
  go_wp2
  go_loopw [12] (fun i wr => ∃ k : Nat, k ≤ n ∧ i = .int .i64 k ∧ (∀ j, j < k → ¬ isE (f j)) ∧ Below w.heap.size w wr) (fun i _ => n - (intOf i).toNat)
  case atStart => exact ⟨0, Nat.zero_le _, rfl, fun j h => absurd h (Nat.not_lt_zero j), Below.refl _ _⟩
  case round =>
    obtain ⟨k, hk, rfl, hno, hB⟩ := hrel
    have Hno := hide hno
    clear hno
    by_cases hlt : k < n
    · have hck : wr.cell? ⟨b, o + k, none⟩ = some (.int .u8 (f k)) := (hB.cell (p := ⟨b, o + k, none⟩) hb).trans (unhide Hs k hlt)
      have hfk := unhide Hf k hlt
      obtain ⟨x, hx⟩ : ∃ x, f k = x := ⟨_, rfl⟩
      rw [hx] at hck hfk
      have Hx := hide hx
      clear hx
      obtain ⟨hx0, hx1⟩ := hfk
      by_cases ha : x < 128
      · by_cases hE : isE x
        · have HE := hide hE
          obtain ⟨v, hv0, hv1, hib⟩ : ∃ v : Int, 0 ≤ v ∧ v ≤ 1 ∧ ∀ w, (callFunc 15 #[.string ⟨#[13, 10]⟩, .int .u8 x]).run Tryd.prog w = .ok (.value (.int .i64 v)) w := by
            rcases hE with rfl | rfl
            · exact ⟨0, by omega, by omega, fun w => by rw [ib_run]; rfl⟩
            · exact ⟨1, by omega, by omega, fun w => by rw [ib_run]; rfl⟩
          clear hE
          go_wp2
          go_ret
          exact ⟨k, rfl, Or.inr ⟨k, rfl, hlt, by rw [unhide Hx]; exact unhide HE, unhide Hno⟩, hB⟩
        · have HE := hide hE
          have hib : ∀ w, (callFunc 15 #[.string ⟨#[13, 10]⟩, .int .u8 x]).run Tryd.prog w = .ok (.value (.int .i64 (-1))) w := fun w => by
            rw [ib_run, ib_no x hx0 hx1 hE]
          clear hE
          go_wp2
          go_roundw
          case rel => exact ⟨k + 1, by omega, by go_num, fun j hj => by
            by_cases e : j = k
            · subst e; rw [unhide Hx]; exact unhide HE
            · exact unhide Hno j (by omega), hB⟩
          case measure => simp [intOf]; omega
      · have hsl := slice_l (some ⟨b, o, none⟩) n c k hk
        rw [subp_some (by omega)] at hsl
        have hD : Hid (Calls Tryd.prog 20 #[.slice (some ⟨b, o + k, none⟩) (n - k) (c - k)] wr _) :=
          dec_at b o n (c - k) k f wr ((unhide HT).below hB) (fun j hj => (hB.cell (p := ⟨b, o + j, none⟩) hb).trans (unhide Hs j hj)) (unhide Hf) hlt (by rw [unhide Hx]; omega)
        go_wp2_with fail
        refine (unhide hD).mono ?_
        rintro e w1 ⟨r, wd, rfl, ⟨q1, q2, q3, q4, q5, q6, q7, q8⟩, hB1⟩
        have Q3 := hide q3
        clear q3 hD
        have n0 := next0 w1
        have n1 := next1 w1
        have n2 := next2 w1
        have r13 : ((r : Int) == 13) = false := by rw [beq_eq_false_iff_ne]; omega
        have r10 : ((r : Int) == 10) = false := by rw [beq_eq_false_iff_ne]; omega
        obtain ⟨m, hm⟩ := ((unhide HT).below (hB.trans (hB1.mono hB.size))).2
        by_cases hr : r = 65533
        · subst hr
          clear q7 q8 hm
          go_wp2_with fail
          refine wp_loop_rounds 3 ?_
          rw [rounds_succ]
          go_wp2
          rw [rounds_succ]
          go_wp2
          rw [rounds_succ]
          go_wp2
          go_roundw
          case rel =>
            (repeat apply Exists.intro)
            refine ⟨⟨k + wd, ?_, ?_, ?_, ?_⟩, rfl⟩
            · omega
            · go_num
            · exact noE_ext (unhide Hno) (unhide Q3)
            · exact (hB.trans (hB1.mono hB.size)).alloc (Nat.le_trans hB.size hB1.size) _
          case measure => simp [intOf]; omega
        · have hrb : ((r : Int) != 65533) = true := by rw [bne_iff_ne]; omega
          have hw2 : 2 ≤ wd := by omega
          clear hr q7
          by_cases h2w : wd = 2
          · subst h2w
            have hen := enc_ne r q4
            clear q8 hm n0 n1 n2 r13 r10
            go_wp2
            go_roundw
            case rel =>
              (repeat apply Exists.intro)
              refine ⟨⟨k + 2, ?_, ?_, ?_, ?_⟩, rfl⟩
              · omega
              · go_num
              · exact noE_ext (unhide Hno) (unhide Q3)
              · exact hB.trans (hB1.mono hB.size)
            case measure => simp [intOf]; omega
          · have h2b : ((2 : Int) == (wd : Int)) = false := by rw [beq_eq_false_iff_ne]; omega
            have q8' := q8 (by omega)
            clear q8
            by_cases hmw : (wd : Int) ≤ m
            · have his := is_run r wd m w1 hm q8'.1 (by omega) q8'.2 hmw
              clear q8' n0 n1 n2 r13 r10
              go_wp2
              go_roundw
              case rel =>
                (repeat apply Exists.intro)
                refine ⟨⟨k + wd, ?_, ?_, ?_, ?_⟩, rfl⟩
                · omega
                · go_num
                · exact noE_ext (unhide Hno) (unhide Q3)
                · exact hB.trans (hB1.mono hB.size)
              case measure => simp [intOf]; omega
            · clear q8'
              go_wp2_with fail
              refine wp_loop_rounds 3 ?_
              rw [rounds_succ]
              go_wp2
              rw [rounds_succ]
              go_wp2
              rw [rounds_succ]
              go_wp2
              go_roundw
              case rel =>
                (repeat apply Exists.intro)
                refine ⟨⟨k + wd, ?_, ?_, ?_, ?_⟩, rfl⟩
                · omega
                · go_num
                · exact noE_ext (unhide Hno) (unhide Q3)
                · exact (hB.trans (hB1.mono hB.size)).alloc (Nat.le_trans hB.size hB1.size) _
              case measure => simp [intOf]; omega
    · go_wp2
      go_ret
      exact ⟨-1, rfl, Or.inl ⟨rfl, fun j hj => unhide Hno j (by omega)⟩, hB⟩

end Go.Proofs.Qxb6000583aDoor
