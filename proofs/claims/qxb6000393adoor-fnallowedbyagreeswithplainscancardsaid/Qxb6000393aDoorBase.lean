/-
  Slices as a function of the index, strings as lists of bytes: the walk's facts. (Turned from seat 766's texts.)
-/
import Derived.Test.Qxb6000393aDoorProg
import Derived.Test.Qxb6000393aDoorShelf
import Derived.WalkKit
import Derived.WalkSpells
import Derived.WalkLawsBesides
import Derived.Deep.QuietTactic
import Derived.BigQuiet
import Derived.Deep.OwnRows
import Derived.Laws.Strings3
namespace Go.Proofs.Qxb6000393aDoor
open Go.RowKit

theorem hide {p : Prop} (h : p) : Hid p := h
theorem unhide {p : Prop} (h : Hid p) : p := h

/-- The n values at p are F 0, F 1, .. (of an empty slice nothing is said). -/
def SegV (w : World) (p : Option Addr) (n : Nat) (F : Nat → Value) : Prop :=
  0 < n → ∃ b o, p = some ⟨b, o, none⟩ ∧ ∀ j, j < n → w.cell? ⟨b, o + j, none⟩ = some (F j)
theorem SegV.zero (w : World) (p : Option Addr) (F : Nat → Value) : SegV w p 0 F := fun h => absurd h (Nat.lt_irrefl 0)
theorem SegV.below {w w' : World} {p : Option Addr} {n : Nat} {F : Nat → Value} (h : SegV w p n F) (hB : Below w.heap.size w w') : SegV w' p n F := fun h0 => by
  obtain ⟨b, o, rfl, hc⟩ := h h0
  exact ⟨b, o, rfl, fun i hi => by rw [hB.cell (p := ⟨b, o + i, none⟩) (World.block_lt_of_cell? _ _ (hc i hi))]; exact hc i hi⟩

theorem below_drewN_any (w : World) (q : Nat) : Below w.heap.size w (w.drewN q) := ⟨rfl, rfl, rfl, Nat.le_refl _, fun _ _ => rfl⟩

theorem add_pl (b o j : Nat) : (⟨b, o, none⟩ : Addr).add j = ⟨b, o + j, none⟩ := by unfold Addr.add; split <;> simp_all

/-- The copied cells. -/
def copied (F : Nat → Value) (n : Nat) : List Value := (List.range n).map F
theorem copied_length (F : Nat → Value) (n : Nat) : (copied F n).length = n := by simp [copied]
theorem copied_at (F : Nat → Value) (n j : Nat) (h : j < n) : (copied F n)[j]? = some (F j) := by simp [copied, h]

/-- A string of these bytes. -/
def S (l : List UInt8) : Value := .string ⟨l.toArray⟩
theorem S_one (l : List UInt8) : (S l).oneCell' = true := rfl
theorem S_inj {a b : List UInt8} (h : S a = S b) : a = b := by
  unfold S at h
  have := congrArg (fun v => match v with | .string s => s.data.toList | _ => []) h
  simpa using this
theorem size_S (l : List UInt8) : (ByteArray.mk l.toArray).size = l.length := rfl

theorem cells_S (l : List UInt8) : (S l).cells = #[S l] := rfl
theorem store_S (l : List UInt8) (w : World) (a : Addr) (m : Mode) : (store a (S l) m).run Tryd.prog w = stored Tryd.prog w a (S l) m := run_store Tryd.prog w a _ m rfl
theorem guard_S (op : BinOp) (t : TypeId) (x y : Operand) (l : List UInt8) (v : Value) : eqGuard op t x y (S l) v = pure () := by unfold S; cases op <;> rfl
theorem len_S (l : List UInt8) (w : World) : (Builtin.len_ #[9] 3 #[S l]).run Tryd.prog w = .ok (.int .i64 (l.length : Int)) w :=
  run_len_string (P := Tryd.prog) w 9 3 ⟨l.toArray⟩ Tryd.underlying9
theorem idx_S (l : List UInt8) (k : Nat) (x : UInt8) (h : l[k]? = some x) (w : World) : (Instr.index 9 (S l) (.int .i64 (k : Int))).run Tryd.prog w = .ok (.int .u8 (x.toNat : Int)) w := by
  have hk : k < l.length := by
    rcases Nat.lt_or_ge k l.length with h' | h'
    · exact h'
    · rw [List.getElem?_eq_none h'] at h; cases h
  unfold S
  rw [run_index_string (P := Tryd.prog) w 9 ⟨l.toArray⟩ .i64 (k : Int) Tryd.underlying9, dif_pos ⟨by omega, by rw [size_S]; omega⟩]
  rw [List.getElem?_eq_getElem hk] at h
  cases h
  rfl
theorem eql_S (a b : List UInt8) (w : World) : (binOp .eql 9 (S a) (S b)).run Tryd.prog w = .ok (.bool (a == b)) w := by
  unfold S
  rw [binOp_string_eql]
  simp
theorem neq_S (a b : List UInt8) (w : World) : (binOp .neq 9 (S a) (S b)).run Tryd.prog w = .ok (.bool (a != b)) w := by
  unfold S
  simp [go_sem]
  cases h : a == b <;> simp_all
theorem from_S (l : List UInt8) (k : Nat) (h : k ≤ l.length) (w : World) : (Instr.slice 9 (S l) (some (.int .i64 (k : Int))) none none).run Tryd.prog w = .ok (S (l.drop k)) w := by
  unfold S
  rw [run_slice_string_from_if (P := Tryd.prog) w 9 ⟨l.toArray⟩ .i64 (k : Int) Tryd.underlying9, if_pos ⟨by omega, by rw [size_S]; omega⟩, ByteArray.extract_mk]
  rw [size_S, Int.toNat_natCast, List.take_of_length_le (by rw [List.length_drop]; exact Nat.le_refl _)]
theorem to_S (l : List UInt8) (k : Nat) (h : k ≤ l.length) (w : World) : (Instr.slice 9 (S l) none (some (.int .i64 (k : Int))) none).run Tryd.prog w = .ok (S (l.take k)) w := by
  unfold S
  rw [run_slice_string_to_if (P := Tryd.prog) w 9 ⟨l.toArray⟩ .i64 (k : Int) Tryd.underlying9, if_pos ⟨by omega, by rw [size_S]; omega⟩, ByteArray.extract_mk]
  simp


/-- The library's MaxLen: some int. -/
def HasMax (w : World) : Prop := ∃ m, w.cell? ⟨0, 0, none⟩ = some (.int .i64 m)
theorem HasMax.below {w w' : World} (h : HasMax w) (hB : Below w.heap.size w w') : HasMax w' := by
  obtain ⟨m, hm⟩ := h
  exact ⟨m, by rw [hB.cell (p := ⟨0, 0, none⟩) (World.block_lt_of_cell? _ _ hm)]; exact hm⟩

theorem cut_S (p : List UInt8) (w : World) (hp : p.length < 4294967281) (hM : HasMax w) : Calls Tryd.prog 26 #[S p, .string ⟨#[42]⟩] w fun e w' => e = .returned (.tuple #[S (Lib.cut p [42]).1, S (Lib.cut p [42]).2.1, .bool (Lib.cut p [42]).2.2]) ∧ ∃ n, w' = w.drewN n := by
  obtain ⟨m, hm⟩ := hM
  exact Any.strings_Cut Tryd.lays145 ⟨p.toArray⟩ ⟨#[42]⟩ m w hp hm
theorem pre_S (s p : List UInt8) (w : World) : Calls Tryd.prog 27 #[S s, S p] w fun e w' => e = .returned (.bool (Lib.hasPrefix s p)) ∧ w' = w :=
  Any.strings_HasPrefix Tryd.lays99 ⟨s.toArray⟩ ⟨p.toArray⟩ w
theorem suf_S (s p : List UInt8) (w : World) (hs : s.length ≤ 9223372036854775807) : Calls Tryd.prog 29 #[S s, S p] w fun e w' => e = .returned (.bool (Lib.hasSuffix s p)) ∧ w' = w :=
  Any.strings_HasSuffix Tryd.lays100 ⟨s.toArray⟩ ⟨p.toArray⟩ w hs
theorem last_S (s : List UInt8) (w : World) (hs : s.length < 4611686018427387904) : Calls Tryd.prog 28 #[S s, .int .u8 42] w fun e w' => e = .returned (.int .i64 (Lib.lastIndexByte ⟨s.toArray⟩ 42)) ∧ w' = w :=
  Any.strings_LastIndexByte Tryd.lays149 ⟨s.toArray⟩ 42 hs w
theorem index_S (s p : List UInt8) (w : World) (hs : s.length < 4294967281) (hM : HasMax w) : Calls Tryd.prog 31 #[S s, S p] w fun e w' => e = .returned (.int .i64 (Lib.index s p)) ∧ w' = w := by
  obtain ⟨m, hm⟩ := hM
  exact Any.strings_Index Tryd.lays143 ⟨s.toArray⟩ ⟨p.toArray⟩ m w hs hm
theorem has_S (s : List UInt8) (w : World) : Calls Tryd.prog 46 #[S s, .string ⟨#[42]⟩] w fun e w' => e = .returned (.bool (decide (0 ≤ Lib.indexByte s 42))) ∧ w' = w :=
  Any.strings_Contains_one Tryd.lays144 ⟨s.toArray⟩ 42 w

end Go.Proofs.Qxb6000393aDoor
