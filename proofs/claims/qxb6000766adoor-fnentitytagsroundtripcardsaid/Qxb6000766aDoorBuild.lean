/-
  zzBadTagByte, zzBuildTag, zzAppendSep, walked.
-/
import Derived.Test.Qxb6000766aDoorPlain
import Derived.OwnWalk
import Derived.Lib.AppendStr
import Derived.Laws.BytesArg
import Derived.Laws.MakeOwn
namespace Go.Proofs.Qxb6000766aDoor
open Go.RowKit

/-- The bytes as cells. -/
def BV (l : List UInt8) : List Value := l.map fun c => Value.int .u8 (c.toNat : Int)
theorem BV_append (a b : List UInt8) : BV (a ++ b) = BV a ++ BV b := List.map_append
/-- v is a []byte of one's own with these bytes. -/
def Buf (B : Nat) (l : List UInt8) (v : Value) (w : World) : Prop := w.ownsRow B 5 1 v l.length (BV l)

theorem Buf.push {B : Nat} {l x : List UInt8} {v v' : Value} {w w5 w0 : World} {m : Nat} {o : Obj} (hb : Buf B l v w) (hB : Below B w0 w) (hs : B ≤ w.heap.size) (hm : x.length = m) (ho : w5.ownsRow B 5 1 v' (l.length + m) (BV l ++ BV x)) (hg : (w.alloc o).grownBy w5 v.ownBlock) : Buf B (l ++ x) v' w5 ∧ Below B w0 w5 ∧ B ≤ w5.heap.size := by
  subst hm
  have h1 : Buf B (l ++ x) v' w5 := by unfold Buf; rw [BV_append, List.length_append]; exact ho
  exact ⟨h1, (hB.alloc hs o).grown hg (by simp; omega) fun k hk => (World.ownsRow.lt hb k hk).1, by have := hg.size; simp at this; omega⟩

theorem conv_S {B : Nat} {l : List UInt8} {v : Value} {w : World} (h : Buf B l v w) : (convert 24 9 v).run Tryd.prog w = .ok (S l) w := by
  rcases h.2 with ⟨rfl, h0⟩ | ⟨g, cap, cur, rfl, _, _, _⟩
  · have : l = [] := List.eq_nil_of_length_eq_zero h0
    subst this
    exact run_convert_bytes_nil (P := Tryd.prog) w 24 5 Tryd.underlying24 Tryd.underlying5 0 0 9 Tryd.underlying9
  · have hr := run_convert_bytes_arg (P := Tryd.prog) w 24 5 Tryd.underlying24 Tryd.underlying5 g 0 l.length cap (l.map fun c => (c.toNat : Int)) (by simp) (fun i hi => by
      rw [Nat.zero_add, World.ownsRow.cellAt h i (by omega)]
      simp [BV, hi]) 9 Tryd.underlying9
    rw [hr]
    unfold S strOfNums
    rw [List.map_map]
    have : (l.map ((fun n : Int => UInt8.ofNat n.toNat) ∘ fun c : UInt8 => (c.toNat : Int))) = l := by
      rw [List.map_congr_left (g := id) (fun a _ => by simp)]
      simp
    rw [this]

set_option maxRecDepth 100000 in
theorem bad_yes (x : Int) (w : World) (h : x = 34 ∨ x < 33 ∨ x = 127) : Calls Tryd.prog 19 #[.int .u8 x] w fun e w' => e = .returned (.bool true) ∧ w' = w := by
  by_cases h1 : x = 34
  · subst h1
    go_enter Tryd.func19, Tryd.ntmps19
    go_wp2
    go_ret
    exact ⟨rfl, rfl⟩
  · have e1 : (x == 34) = false := by rw [beq_eq_false_iff_ne]; exact h1
    by_cases h2 : x < 33
    · clear h h1
      go_enter Tryd.func19, Tryd.ntmps19
      go_wp2
      go_ret
      exact ⟨rfl, rfl⟩
    · obtain rfl : x = 127 := by omega
      go_enter Tryd.func19, Tryd.ntmps19
      go_wp2
      go_ret
      exact ⟨rfl, rfl⟩

set_option maxRecDepth 100000 in
theorem bad_no (x : Int) (w : World) (h1 : x ≠ 34) (h2 : ¬ x < 33) (h3 : x ≠ 127) : Calls Tryd.prog 19 #[.int .u8 x] w fun e w' => e = .returned (.bool false) ∧ w' = w := by
  have e1 : (x == 34) = false := by rw [beq_eq_false_iff_ne]; exact h1
  have e3 : (x == 127) = false := by rw [beq_eq_false_iff_ne]; exact h3
  clear h1 h3
  go_enter Tryd.func19, Tryd.ntmps19
  go_wp2
  go_ret
  exact ⟨rfl, rfl⟩

/-- What zzBuildTag answers: some tag, not much longer than what it was handed. -/
def BuildPost (n : Nat) (w : World) (e : Ending) (w' : World) : Prop := ∃ t, e = .returned (S t) ∧ IsTag t ∧ t.length ≤ n + 4 ∧ Below w.heap.size w w'

/-- The loop's state. -/
def Bld (w : World) (pre : List UInt8) (body : List UInt8) (v : Value) (wr : World) : Prop :=
  Buf w.heap.size (pre ++ 34 :: body) v wr ∧ (∀ c ∈ body, 33 ≤ c.toNat ∧ c.toNat ≠ 34 ∧ c.toNat ≠ 127) ∧ Below w.heap.size w wr ∧ w.heap.size ≤ wr.heap.size

theorem Bld.next {w : World} {pre body : List UInt8} {v v' : Value} {wr w5 : World} {o : Obj} {y : UInt8} (h : Bld w pre body v wr) (hy : 33 ≤ y.toNat ∧ y.toNat ≠ 34 ∧ y.toNat ≠ 127)
    (ho : w5.ownsRow w.heap.size 5 1 v' ((pre ++ 34 :: body).length + 1) (BV (pre ++ 34 :: body) ++ BV [y])) (hg : (wr.alloc o).grownBy w5 v.ownBlock) : Bld w pre (body ++ [y]) v' w5 := by
  obtain ⟨h1, h2, h3, h4⟩ := h
  obtain ⟨a, b, c⟩ := h1.push (x := [y]) h3 h4 rfl ho hg
  refine ⟨by simpa using a, fun c hc => ?_, b, c⟩
  rcases List.mem_append.1 hc with hc | hc
  · exact h2 c hc
  · simp at hc; subst hc; exact hy

set_option maxRecDepth 100000 in
set_option maxHeartbeats 2000000 in
theorem build_any (s : List UInt8) (weak : Bool) (w : World) (hs : s.length ≤ 1048576) : Calls Tryd.prog 11 #[S s, .bool weak] w (BuildPost s.length w) := by
  obtain ⟨i5, hi5, hy0, hy1, hy2⟩ := info_parts Tryd.info5
  obtain ⟨w1, hmk, ho1, hg1⟩ := run_make_own (P := Tryd.prog) w w.heap.size 24 5 i5 (.int .u8 0) 1 Tryd.underlying24 hi5 hy0 hy1 .i64 .i64 (s.length + 4) (by rw [hy2]; omega) (by unfold maxLen; omega) (Nat.le_refl _)
  have hB1 : Below w.heap.size w w1 := (Below.refl _ w).grown hg1 (Nat.le_refl _) (fun k hk => by cases hk)
  have hs1 := hB1.size
  have Hb1 : Hid (Buf w.heap.size [] (.slice (some ⟨w.heap.size, 0, none⟩) 0 (s.length + 4)) w1) := ho1
  have HB1 := hide hB1
  simp only [Int.natCast_add, Int.cast_ofNat_Int] at hmk
  have hl := len_S s
  clear ho1 hg1 hB1
  cases weak with
  | false =>
    go_enter Tryd.func11, Tryd.ntmps11
    go_wp2_with (at_builtin; (refine wpList_append_lies _ rfl (.tmp 16) (.tmp 17) 24 rfl w.heap.size 5 i5 (.int .u8 0) 1 1 Tryd.underlying24 hi5 hy0 hy1 hy2 rfl (by decide) _ 0 [] rfl (World.ownsRow.alloc (unhide Hb1) _) ⟨w1.heap.size, 0, none⟩ 1 1 [.int .u8 34] rfl rfl (by exact cells_new _ [.int .u8 34] _ _ rfl) (fun u hu => by simp at hu; subst hu; rfl) (by decide) (by unfold maxLen; omega) (by omega) (by simp; omega) _ rfl ?_); intro g4 cap4 w5 ho5 hg5 hgg5 hlt5; have HB5 := hide ((unhide Hb1).push (x := [34]) (unhide HB1) hs1 rfl ho5 hg5); have HB0 : Hid (Bld w [] [] (.slice (some ⟨g4, 0, none⟩) (0 + 1) cap4) w5) := ⟨(unhide HB5).1, fun c hc => absurd hc (by simp), (unhide HB5).2⟩; clear ho5 hg5 hgg5 hlt5 Hb1 HB1 HB5)
    go_wp2
    go_loopw [5, 6] (fun a b wr => ∃ (i : Nat) (body : List UInt8) (v : Value), v = a ∧ b = .int .i64 (i : Int) ∧ i ≤ s.length ∧ body.length ≤ i ∧ Bld w ([] : List UInt8) body v wr) (fun _ b _ => s.length - (intOf b).toNat)
    case atStart => exact ⟨0, [], _, rfl, rfl, Nat.zero_le _, Nat.le_refl _, unhide HB0⟩
    case round =>
      clear HB0
      obtain ⟨i, body, v, rfl, rfl, hi, hbl, hbd⟩ := hrel
      obtain ⟨l, hL⟩ : ∃ l, ([] : List UInt8) ++ 34 :: body = l := ⟨_, rfl⟩
      have hll : l.length ≤ i + 3 := by rw [← hL]; simp; omega
      have hw1 := hbd.2.2.2
      have HBuf : Hid (Buf w.heap.size l v wr) := by rw [← hL]; exact hbd.1
      have HL := hide hL
      have HBd := hide hbd
      clear hL hbd
      by_cases hlt : i < s.length
      · obtain ⟨x, hx⟩ : ∃ x, s[i]? = some x := ⟨s[i]'hlt, List.getElem?_eq_getElem hlt⟩
        have hix := idx_S s i x hx
        clear hx
        by_cases hbad : (x.toNat : Int) = 34 ∨ (x.toNat : Int) < 33 ∨ (x.toNat : Int) = 127
        · have HC := hide (bad_yes (x.toNat : Int) wr hbad)
          clear hbad
          go_wp2_with fail
          refine (unhide HC).mono ?_
          rintro e w' ⟨rfl, hw⟩
          rw [hw]
          clear HC hw w'
          go_wp2_with (at_builtin; (refine wpList_append_lies _ rfl (.tmp 30) (.tmp 32) 24 rfl w.heap.size 5 i5 (.int .u8 0) 1 1 Tryd.underlying24 hi5 hy0 hy1 hy2 rfl (by decide) v l.length (BV l) rfl (World.ownsRow.alloc (unhide HBuf) _) ⟨wr.heap.size, 0, none⟩ 1 1 [.int .u8 120] rfl rfl (by exact cells_new _ [.int .u8 120] _ _ rfl) (fun u hu => by simp at hu; subst hu; rfl) (by decide) (by unfold maxLen; omega) (by omega) (by simp; omega) _ rfl ?_); intro g4 cap4 w5 ho5 hg5 hgg5 hlt5; have HB5 := hide ((unhide HBd).next (y := 120) (by decide) (by rw [unhide HL]; exact ho5) hg5); clear ho5 hg5 hgg5 hlt5)
          go_roundw
          case rel => exact ⟨i + 1, body ++ [120], _, rfl, by go_num, by omega, by simp; omega, unhide HB5⟩
          case measure => simp [intOf]; omega
        · have HC := hide (bad_no (x.toNat : Int) wr (by omega) (by omega) (by omega))
          have Hx : Hid (33 ≤ x.toNat ∧ x.toNat ≠ 34 ∧ x.toNat ≠ 127) := ⟨by omega, by omega, by omega⟩
          clear hbad
          go_wp2_with fail
          refine (unhide HC).mono ?_
          rintro e w' ⟨rfl, hw⟩
          rw [hw]
          clear HC hw w'
          go_wp2_with (at_builtin; (refine wpList_append_lies _ rfl (.tmp 30) (.tmp 32) 24 rfl w.heap.size 5 i5 (.int .u8 0) 1 1 Tryd.underlying24 hi5 hy0 hy1 hy2 rfl (by decide) v l.length (BV l) rfl (World.ownsRow.alloc (unhide HBuf) _) ⟨wr.heap.size, 0, none⟩ 1 1 [.int .u8 (x.toNat : Int)] rfl rfl (by exact cells_new _ [.int .u8 (x.toNat : Int)] _ _ rfl) (fun u hu => by simp at hu; subst hu; rfl) (by decide) (by unfold maxLen; omega) (by omega) (by simp; omega) _ rfl ?_); intro g4 cap4 w5 ho5 hg5 hgg5 hlt5; have HB5 := hide ((unhide HBd).next (y := x) (unhide Hx) (by rw [unhide HL]; exact ho5) hg5); clear ho5 hg5 hgg5 hlt5)
          go_roundw
          case rel => exact ⟨i + 1, body ++ [x], _, rfl, by go_num, by omega, by simp; omega, unhide HB5⟩
          case measure => simp [intOf]; omega
      · go_wp2_with (at_builtin; (refine wpList_append_lies _ rfl (.tmp 34) (.tmp 35) 24 rfl w.heap.size 5 i5 (.int .u8 0) 1 1 Tryd.underlying24 hi5 hy0 hy1 hy2 rfl (by decide) v l.length (BV l) rfl (World.ownsRow.alloc (unhide HBuf) _) ⟨wr.heap.size, 0, none⟩ 1 1 [.int .u8 34] rfl rfl (by exact cells_new _ [.int .u8 34] _ _ rfl) (fun u hu => by simp at hu; subst hu; rfl) (by decide) (by unfold maxLen; omega) (by omega) (by simp; omega) _ rfl ?_); intro g4 cap4 w5 ho5 hg5 hgg5 hlt5; have HB5 := hide ((unhide HBuf).push (x := [34]) (unhide HBd).2.2.1 hw1 rfl ho5 hg5); have hcv := conv_S (unhide HB5).1; clear ho5 hg5 hgg5 hlt5)
        go_ret
        refine ⟨l ++ [34], rfl, ⟨false, body, (unhide HBd).2.1, ?_⟩, ?_, (unhide HB5).2.1⟩
        · rw [← unhide HL]; simp
        · rw [List.length_append, List.length_singleton]; omega
  | true =>
    go_enter Tryd.func11, Tryd.ntmps11
    go_wp2_with (at_builtin; first | ((refine wpList_append_lies _ rfl (.tmp 13) (.tmp 14) 24 rfl w.heap.size 5 i5 (.int .u8 0) 1 1 Tryd.underlying24 hi5 hy0 hy1 hy2 rfl (by decide) _ 0 [] rfl (World.ownsRow.alloc (unhide Hb1) _) ⟨w1.heap.size, 0, none⟩ 2 2 [.int .u8 87, .int .u8 47] rfl rfl (by exact cells_new _ [.int .u8 87, .int .u8 47] _ _ rfl) (fun u hu => by simp at hu; rcases hu with rfl | rfl <;> rfl) (by decide) (by unfold maxLen; omega) (by omega) (by simp; omega) _ rfl ?_); intro g4 cap4 w5 ho5 hg5 hgg5 hlt5; have HB5 := hide ((unhide Hb1).push (x := [87, 47]) (unhide HB1) hs1 rfl ho5 hg5); have hs5 := (unhide HB5).2.2; clear ho5 hg5 hgg5 hlt5 Hb1 HB1) | ((refine wpList_append_lies _ rfl (.tmp 16) (.tmp 17) 24 rfl w.heap.size 5 i5 (.int .u8 0) 1 1 Tryd.underlying24 hi5 hy0 hy1 hy2 rfl (by decide) _ 2 [.int .u8 87, .int .u8 47] rfl (World.ownsRow.alloc (unhide HB5).1 _) ⟨w5.heap.size, 0, none⟩ 1 1 [.int .u8 34] rfl rfl (by exact cells_new _ [.int .u8 34] _ _ rfl) (fun u hu => by simp at hu; subst hu; rfl) (by decide) (by unfold maxLen; omega) (by omega) (by simp; omega) _ rfl ?_); intro g6 cap6 w6 ho6 hg6 hgg6 hlt6; have HB6 := hide ((unhide HB5).1.push (x := [34]) (unhide HB5).2.1 hs5 rfl ho6 hg6); have HB0 : Hid (Bld w [87, 47] [] (.slice (some ⟨g6, 0, none⟩) (2 + 1) cap6) w6) := ⟨(unhide HB6).1, fun c hc => absurd hc (by simp), (unhide HB6).2⟩; clear ho6 hg6 hgg6 hlt6 HB6 HB5))
    go_wp2
    go_loopw [5, 6] (fun a b wr => ∃ (i : Nat) (body : List UInt8) (v : Value), v = a ∧ b = .int .i64 (i : Int) ∧ i ≤ s.length ∧ body.length ≤ i ∧ Bld w ([87, 47] : List UInt8) body v wr) (fun _ b _ => s.length - (intOf b).toNat)
    case atStart => exact ⟨0, [], _, rfl, rfl, Nat.zero_le _, Nat.le_refl _, unhide HB0⟩
    case round =>
      clear HB0
      obtain ⟨i, body, v, rfl, rfl, hi, hbl, hbd⟩ := hrel
      obtain ⟨l, hL⟩ : ∃ l, ([87, 47] : List UInt8) ++ 34 :: body = l := ⟨_, rfl⟩
      have hll : l.length ≤ i + 3 := by rw [← hL]; simp; omega
      have hw1 := hbd.2.2.2
      have HBuf : Hid (Buf w.heap.size l v wr) := by rw [← hL]; exact hbd.1
      have HL := hide hL
      have HBd := hide hbd
      clear hL hbd
      by_cases hlt : i < s.length
      · obtain ⟨x, hx⟩ : ∃ x, s[i]? = some x := ⟨s[i]'hlt, List.getElem?_eq_getElem hlt⟩
        have hix := idx_S s i x hx
        clear hx
        by_cases hbad : (x.toNat : Int) = 34 ∨ (x.toNat : Int) < 33 ∨ (x.toNat : Int) = 127
        · have HC := hide (bad_yes (x.toNat : Int) wr hbad)
          clear hbad
          go_wp2_with fail
          refine (unhide HC).mono ?_
          rintro e w' ⟨rfl, hw⟩
          rw [hw]
          clear HC hw w'
          go_wp2_with (at_builtin; (refine wpList_append_lies _ rfl (.tmp 30) (.tmp 32) 24 rfl w.heap.size 5 i5 (.int .u8 0) 1 1 Tryd.underlying24 hi5 hy0 hy1 hy2 rfl (by decide) v l.length (BV l) rfl (World.ownsRow.alloc (unhide HBuf) _) ⟨wr.heap.size, 0, none⟩ 1 1 [.int .u8 120] rfl rfl (by exact cells_new _ [.int .u8 120] _ _ rfl) (fun u hu => by simp at hu; subst hu; rfl) (by decide) (by unfold maxLen; omega) (by omega) (by simp; omega) _ rfl ?_); intro g4 cap4 w5 ho5 hg5 hgg5 hlt5; have HB5 := hide ((unhide HBd).next (y := 120) (by decide) (by rw [unhide HL]; exact ho5) hg5); clear ho5 hg5 hgg5 hlt5)
          go_roundw
          case rel => exact ⟨i + 1, body ++ [120], _, rfl, by go_num, by omega, by simp; omega, unhide HB5⟩
          case measure => simp [intOf]; omega
        · have HC := hide (bad_no (x.toNat : Int) wr (by omega) (by omega) (by omega))
          have Hx : Hid (33 ≤ x.toNat ∧ x.toNat ≠ 34 ∧ x.toNat ≠ 127) := ⟨by omega, by omega, by omega⟩
          clear hbad
          go_wp2_with fail
          refine (unhide HC).mono ?_
          rintro e w' ⟨rfl, hw⟩
          rw [hw]
          clear HC hw w'
          go_wp2_with (at_builtin; (refine wpList_append_lies _ rfl (.tmp 30) (.tmp 32) 24 rfl w.heap.size 5 i5 (.int .u8 0) 1 1 Tryd.underlying24 hi5 hy0 hy1 hy2 rfl (by decide) v l.length (BV l) rfl (World.ownsRow.alloc (unhide HBuf) _) ⟨wr.heap.size, 0, none⟩ 1 1 [.int .u8 (x.toNat : Int)] rfl rfl (by exact cells_new _ [.int .u8 (x.toNat : Int)] _ _ rfl) (fun u hu => by simp at hu; subst hu; rfl) (by decide) (by unfold maxLen; omega) (by omega) (by simp; omega) _ rfl ?_); intro g4 cap4 w5 ho5 hg5 hgg5 hlt5; have HB5 := hide ((unhide HBd).next (y := x) (unhide Hx) (by rw [unhide HL]; exact ho5) hg5); clear ho5 hg5 hgg5 hlt5)
          go_roundw
          case rel => exact ⟨i + 1, body ++ [x], _, rfl, by go_num, by omega, by simp; omega, unhide HB5⟩
          case measure => simp [intOf]; omega
      · go_wp2_with (at_builtin; (refine wpList_append_lies _ rfl (.tmp 34) (.tmp 35) 24 rfl w.heap.size 5 i5 (.int .u8 0) 1 1 Tryd.underlying24 hi5 hy0 hy1 hy2 rfl (by decide) v l.length (BV l) rfl (World.ownsRow.alloc (unhide HBuf) _) ⟨wr.heap.size, 0, none⟩ 1 1 [.int .u8 34] rfl rfl (by exact cells_new _ [.int .u8 34] _ _ rfl) (fun u hu => by simp at hu; subst hu; rfl) (by decide) (by unfold maxLen; omega) (by omega) (by simp; omega) _ rfl ?_); intro g4 cap4 w5 ho5 hg5 hgg5 hlt5; have HB5 := hide ((unhide HBuf).push (x := [34]) (unhide HBd).2.2.1 hw1 rfl ho5 hg5); have hcv := conv_S (unhide HB5).1; clear ho5 hg5 hgg5 hlt5)
        go_ret
        refine ⟨l ++ [34], rfl, ⟨true, body, (unhide HBd).2.1, ?_⟩, ?_, (unhide HB5).2.1⟩
        · rw [← unhide HL]; simp
        · rw [List.length_append, List.length_singleton]; omega

end Go.Proofs.Qxb6000766aDoor
