/-
  Strings as lists of bytes; entityTag, walked.
-/
import Derived.Test.Qxb6000766aDoorBase
import Derived.Test.Qxb6000766aDoorShelf
import Derived.Laws.Strings3
namespace Go.Proofs.Qxb6000766aDoor
open Go.RowKit

/-- A string of these bytes. -/
def S (l : List UInt8) : Value := .string ⟨l.toArray⟩
theorem S_one (l : List UInt8) : (S l).oneCell' = true := rfl
theorem S_inj {a b : List UInt8} (h : S a = S b) : a = b := by
  unfold S at h
  have := congrArg (fun v => match v with | .string s => s.data.toList | _ => []) h
  simpa using this
theorem size_S (l : List UInt8) : (ByteArray.mk l.toArray).size = l.length := rfl

theorem guard_S (op : BinOp) (t : TypeId) (x y : Operand) (l : List UInt8) (v : Value) : eqGuard op t x y (S l) v = pure () := by unfold S; cases op <;> rfl
theorem len_S (l : List UInt8) (w : World) : (Builtin.len_ #[9] 3 #[S l]).run Tryd.prog w = .ok (.int .i64 (l.length : Int)) w :=
  run_len_string (P := Tryd.prog) w 9 3 ⟨l.toArray⟩ Tryd.underlying9
theorem idx_S (l : List UInt8) (k : Nat) (x : UInt8) (h : l[k]? = some x) (w : World) : (Instr.index 9 (S l) (.int .i64 (k : Int))).run Tryd.prog w = .ok (.int .u8 (x.toNat : Int)) w := by
  have hk : k < l.length := by
    rcases Nat.lt_or_ge k l.length with h' | h'
    · exact h'
    · rw [List.getElem?_eq_none h'] at h; cases h
  unfold S
  rw [run_index_string (P := Tryd.prog) w 9 ⟨l.toArray⟩ .i64 (k : Int) Tryd.underlying9, dif_pos ⟨by omega, by rw [size_S]; omega⟩]
  rw [List.getElem?_eq_getElem hk] at h
  cases h
  rfl
theorem eql_S (a b : List UInt8) (w : World) : (binOp .eql 9 (S a) (S b)).run Tryd.prog w = .ok (.bool (a == b)) w := by
  unfold S
  rw [binOp_string_eql]
  simp
theorem neq_S (a b : List UInt8) (w : World) : (binOp .neq 9 (S a) (S b)).run Tryd.prog w = .ok (.bool (a != b)) w := by
  unfold S
  simp [go_sem]
  cases h : a == b <;> simp_all
theorem from_S (l : List UInt8) (k : Nat) (h : k ≤ l.length) (w : World) : (Instr.slice 9 (S l) (some (.int .i64 (k : Int))) none none).run Tryd.prog w = .ok (S (l.drop k)) w := by
  unfold S
  rw [run_slice_string_from_if (P := Tryd.prog) w 9 ⟨l.toArray⟩ .i64 (k : Int) Tryd.underlying9, if_pos ⟨by omega, by rw [size_S]; omega⟩, ByteArray.extract_mk]
  rw [size_S, Int.toNat_natCast, List.take_of_length_le (by rw [List.length_drop]; exact Nat.le_refl _)]
theorem to_S (l : List UInt8) (k : Nat) (h : k ≤ l.length) (w : World) : (Instr.slice 9 (S l) none (some (.int .i64 (k : Int))) none).run Tryd.prog w = .ok (S (l.take k)) w := by
  unfold S
  rw [run_slice_string_to_if (P := Tryd.prog) w 9 ⟨l.toArray⟩ .i64 (k : Int) Tryd.underlying9, if_pos ⟨by omega, by rw [size_S]; omega⟩, ByteArray.extract_mk]
  simp

def TagPost (a b : List UInt8) (w : World) (e : Ending) (w' : World) : Prop := e = .returned (.tuple #[S a, S b, .bool true]) ∧ Below w.heap.size w w'

set_option maxRecDepth 100000 in
set_option maxHeartbeats 400000 in
theorem tag_star (r : List UInt8) (w : World) : Calls Tryd.prog 21 #[S (42 :: r)] w (TagPost [42] r w) := by
  have h0 : ∀ w, (Instr.index 9 (S (42 :: r)) (.int .i64 0)).run Tryd.prog w = .ok (.int .u8 42) w := fun w => idx_S (42 :: r) 0 42 rfl w
  have h1 : ∀ w, (Instr.slice 9 (S (42 :: r)) (some (.int .i64 1)) none none).run Tryd.prog w = .ok (S r) w := fun w => from_S (42 :: r) 1 (by simp) w
  go_enter Tryd.func21, Tryd.ntmps21
  go_wp2
  go_quiet (fail)
  go_wp2
  go_ret3
  exact ⟨rfl, below_drewN_any _ _⟩

theorem cut_tag (pre body r : List UInt8) : (pre ++ 34 :: (body ++ 34 :: r)).take (pre.length + body.length + 2) = pre ++ 34 :: (body ++ [34]) ∧ (pre ++ 34 :: (body ++ 34 :: r)).drop (pre.length + body.length + 2) = r := by
  have e : pre ++ 34 :: (body ++ 34 :: r) = (pre ++ 34 :: (body ++ [34])) ++ r := by simp
  have hl : (pre ++ 34 :: (body ++ [34])).length = pre.length + body.length + 2 := by simp; omega
  rw [e]
  exact ⟨List.take_left' hl, List.drop_left' hl⟩

theorem tp_none (l : List UInt8) (h : Lib.hasPrefix l [87, 47] = false) : Lib.trimPrefix l [87, 47] = l := by unfold Lib.trimPrefix; rw [h]; rfl

theorem trimP (l m : List UInt8) (h : Lib.trimPrefix l [87, 47] = m) (w : World) : Calls Tryd.prog 26 #[S l, .string ⟨#[87, 47]⟩] w fun e w' => e = .returned (S m) ∧ w' = w := by
  subst h
  exact Any.strings_TrimPrefix Tryd.lays101 ⟨l.toArray⟩ ⟨#[87, 47]⟩ w

set_option maxRecDepth 100000 in
set_option maxHeartbeats 1000000 in
/-- l: the whole; m: behind its prefix: 34, body, 34, r. -/
theorem tag_body (l pre body r : List UInt8) (hl : l = pre ++ 34 :: (body ++ 34 :: r)) (hp : Lib.trimPrefix l [87, 47] = 34 :: (body ++ 34 :: r)) (h42 : ∃ x : UInt8, l[0]? = some x ∧ x ≠ 42)
    (hb : ∀ c ∈ body, 33 ≤ c.toNat ∧ c.toNat ≠ 34 ∧ c.toNat ≠ 127) (hlen : l.length ≤ 1000000000000000000) (w : World) : Calls Tryd.prog 21 #[S l] w (TagPost (pre ++ 34 :: (body ++ [34])) r w) := by
  obtain ⟨x, hx0, hx42⟩ := h42
  obtain ⟨m, hm⟩ : ∃ m, 34 :: (body ++ 34 :: r) = m := ⟨_, rfl⟩
  rw [hm] at hl hp
  have HC := hide (trimP l m hp)
  have hx : (x.toNat : Int) ≠ 42 := fun e => hx42 (UInt8.toNat_inj.1 (by have : (UInt8.toNat 42) = 42 := rfl; omega))
  have ex : (((x.toNat : Nat) : Int) == 42) = false := by rw [beq_eq_false_iff_ne]; exact hx
  have h0 : ∀ w, (Instr.index 9 (S l) (.int .i64 0)).run Tryd.prog w = .ok (.int .u8 (x.toNat : Int)) w := fun w => idx_S l 0 x hx0 w
  have h1 : ∀ w, (binOp .eql 9 (S m) (.string ⟨#[]⟩)).run Tryd.prog w = .ok (.bool false) w := fun w => by
    have := eql_S m [] w
    rw [← hm] at this ⊢
    exact this
  have h2 : ∀ w, (Instr.index 9 (S m) (.int .i64 0)).run Tryd.prog w = .ok (.int .u8 34) w := fun w => idx_S m 0 34 (by rw [← hm]; rfl) w
  have gS := guard_S
  have hl1 := len_S l
  have hl2 := len_S m
  have hL : l.length = pre.length + m.length := by rw [hl]; simp
  have hM : m.length = body.length + r.length + 2 := by rw [← hm]; simp; omega
  have Hm := hide hm
  have Hb := hide hb
  have Hl := hide hl
  have HL := hide hL
  have HM := hide hM
  have hble : body.length + 1 < m.length := by omega
  have hle : m.length ≤ l.length := by omega
  clear hx0 hx42 hm hb hl hp hL hM hx
  go_enter Tryd.func21, Tryd.ntmps21
  go_wp2_with fail
  refine (unhide HC w).mono ?_
  rintro e w' ⟨rfl, hw⟩
  rw [hw]
  clear HC hw w'
  go_wp2
  go_loop [6] (fun a => ∃ i : Nat, a = .int .i64 (i : Int) ∧ 1 ≤ i ∧ i ≤ body.length + 1) (fun a => body.length + 1 - (intOf a).toNat)
  case atStart => exact ⟨1, rfl, Nat.le_refl _, by omega⟩
  case round =>
    obtain ⟨i, rfl, hi1, hi2⟩ := hrel
    by_cases hend : i = body.length + 1
    · have h3 : ∀ w, (Instr.index 9 (S m) (.int .i64 (i : Int))).run Tryd.prog w = .ok (.int .u8 34) w := fun w => idx_S m i 34 (by rw [← unhide Hm, hend]; simp) w
      have h4 : ∀ w, (Instr.slice 9 (S l) none (some (.int .i64 (((l.length : Int) - m.length + i) + 1))) none).run Tryd.prog w = .ok (S (pre ++ 34 :: (body ++ [34]))) w := fun w => by
        have h := to_S l (pre.length + body.length + 2) (by have := unhide HL; have := unhide HM; omega) w
        rw [show ((pre.length + body.length + 2 : Nat) : Int) = ((l.length : Int) - m.length + i) + 1 by have := unhide HL; omega] at h
        rw [h]
        have : l.take (pre.length + body.length + 2) = pre ++ 34 :: (body ++ [34]) := by
          rw [unhide Hl, ← unhide Hm]; exact (cut_tag pre body r).1
        rw [this]
      have h5 : ∀ w, (Instr.slice 9 (S l) (some (.int .i64 (((l.length : Int) - m.length + i) + 1))) none none).run Tryd.prog w = .ok (S r) w := fun w => by
        have h := from_S l (pre.length + body.length + 2) (by have := unhide HL; have := unhide HM; omega) w
        rw [show ((pre.length + body.length + 2 : Nat) : Int) = ((l.length : Int) - m.length + i) + 1 by have := unhide HL; omega] at h
        rw [h]
        have : l.drop (pre.length + body.length + 2) = r := by
          rw [unhide Hl, ← unhide Hm]; exact (cut_tag pre body r).2
        rw [this]
      have Hend := hide hend
      clear hend
      go_wp2_with fail
      go_quiet (fail)
      go_wp2
      go_ret3
      exact ⟨rfl, below_drewN_any _ _⟩
    · obtain ⟨y, hy⟩ : ∃ y, body[i - 1]? = some y := ⟨body[i - 1]'(by omega), List.getElem?_eq_getElem (by omega)⟩
      have h3 : ∀ w, (Instr.index 9 (S m) (.int .i64 (i : Int))).run Tryd.prog w = .ok (.int .u8 (y.toNat : Int)) w := fun w => idx_S m i y (by
        obtain ⟨j, rfl⟩ : ∃ j, i = j + 1 := ⟨i - 1, by omega⟩
        rw [← unhide Hm, List.getElem?_cons_succ, List.getElem?_append_left (by omega)]
        exact hy) w
      obtain ⟨b1, b2, b3⟩ := unhide Hb y (List.mem_of_getElem? hy)
      have e1 : (((y.toNat : Nat) : Int) == 34) = false := by rw [beq_eq_false_iff_ne]; omega
      have e2 : (((y.toNat : Nat) : Int) == 127) = false := by rw [beq_eq_false_iff_ne]; omega
      clear hy
      go_wp2
      go_round
      case rel => exact ⟨i + 1, by go_num, by omega, by omega⟩
      case measure => simp [intOf]; omega

/-- An element that EntityTags takes: a star or a tag. -/
def IsTag (e : List UInt8) : Prop := ∃ (weak : Bool) (body : List UInt8), (∀ c ∈ body, 33 ≤ c.toNat ∧ c.toNat ≠ 34 ∧ c.toNat ≠ 127) ∧ e = (if weak then [87, 47] else []) ++ 34 :: (body ++ [34])

theorem tag_any (e r : List UInt8) (h : e = [42] ∨ IsTag e) (hlen : (e ++ r).length ≤ 1000000000000000000) (w : World) : Calls Tryd.prog 21 #[S (e ++ r)] w (TagPost e r w) := by
  rcases h with rfl | ⟨weak, body, hb, rfl⟩
  · exact tag_star r w
  · have e0 : (if weak then [87, 47] else []) ++ 34 :: (body ++ [34]) ++ r = (if weak then [87, 47] else []) ++ 34 :: (body ++ 34 :: r) := by simp
    rw [e0] at hlen ⊢
    refine tag_body _ (if weak then [87, 47] else []) body r rfl ?_ ?_ hb hlen w
    · cases weak
      · rfl
      · rfl
    · cases weak
      · exact ⟨34, rfl, by decide⟩
      · exact ⟨87, rfl, by decide⟩

end Go.Proofs.Qxb6000766aDoor
