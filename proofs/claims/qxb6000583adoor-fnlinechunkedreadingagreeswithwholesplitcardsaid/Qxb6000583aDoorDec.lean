/-
  What the model's decoder says of a run of bytes that begins beyond ASCII: plain laws; nothing of the dump.
-/
import Derived.Lib.DecodeN
import Derived.Shelf.Unicode.DecodeSlow
namespace Go.Proofs.Qxb6000583aDoor

/-- The bytes f i, .., f (n - 1), as bytes. -/
def bsOf (f : Nat → Int) (i n : Nat) : ByteArray := ⟨((List.range (n - i)).map fun j => UInt8.ofNat (f (i + j)).toNat).toArray⟩
theorem bsOf_size (f : Nat → Int) (i n : Nat) : (bsOf f i n).size = n - i := by simp [bsOf, ByteArray.size]
theorem bsOf_get (f : Nat → Int) (i n j : Nat) (h : j < n - i) (h0 : 0 ≤ f (i + j)) (h1 : f (i + j) ≤ 255) : ((bsOf f i n).get! j).toNat = (f (i + j)).toNat := by
  have : (bsOf f i n).get! j = UInt8.ofNat (f (i + j)).toNat := by
    simp [bsOf, ByteArray.get!, h]
  rw [this, UInt8.toNat_ofNat']
  omega

set_option maxHeartbeats 1000000 in
theorem dec_facts (n b0 b1 b2 b3 : Nat) (hb : 128 ≤ b0) (hb0 : b0 < 256) :
    ((Lib.decodeN n b0 b1 b2 b3).1 = 65533 ∧ (Lib.decodeN n b0 b1 b2 b3).2 = 1) ∨
    (128 ≤ (Lib.decodeN n b0 b1 b2 b3).1 ∧ (Lib.decodeN n b0 b1 b2 b3).1 ≤ 1114111 ∧ 2 ≤ (Lib.decodeN n b0 b1 b2 b3).2 ∧ (Lib.decodeN n b0 b1 b2 b3).2 ≤ 4 ∧ (Lib.decodeN n b0 b1 b2 b3).2 ≤ n ∧
      128 ≤ b1 ∧ (2 < (Lib.decodeN n b0 b1 b2 b3).2 → 128 ≤ b2 ∧ 2048 ≤ (Lib.decodeN n b0 b1 b2 b3).1 ∧ ((Lib.decodeN n b0 b1 b2 b3).2 = 3 → (Lib.decodeN n b0 b1 b2 b3).1 < 65536)) ∧ (3 < (Lib.decodeN n b0 b1 b2 b3).2 → 128 ≤ b3)) := by
  unfold Lib.decodeN
  split
  · omega
  split
  · split
    · right; simp only; omega
    · left; simp
  split
  · split
    · right; simp only; omega
    · left; simp
  split
  · split
    · right; simp only; omega
    · left; simp
  · left; simp

/-- At a byte beyond ASCII: one byte and U+FFFD, or a rune beyond ASCII of two to four bytes, none of them ASCII. -/
theorem decGo (f : Nat → Int) (i n : Nat) (hi : i < n) (hf : ∀ j, j < n → 0 ≤ f j ∧ f j ≤ 255) (h8 : 128 ≤ f i) :
    ∃ r k : Nat, (Lib.decodeGo (bsOf f i n)) = (r, k) ∧ 1 ≤ k ∧ i + k ≤ n ∧ (∀ j, i ≤ j → j < i + k → 128 ≤ f j) ∧ 128 ≤ r ∧ r ≤ 1114111 ∧ k ≤ 4 ∧ (r = 65533 ∨ 2 ≤ k) ∧ (2 < k → 2048 ≤ r ∧ (k = 3 → r < 65536)) := by
  have hg : ∀ j, j < n - i → ((bsOf f i n).get! j).toNat = (f (i + j)).toNat := fun j hj => bsOf_get f i n j hj (hf _ (by omega)).1 (hf _ (by omega)).2
  have hs := bsOf_size f i n
  have hd : Lib.decodeGo (bsOf f i n) = Lib.decodeN (n - i) ((bsOf f i n).get! 0).toNat ((bsOf f i n).get! 1).toNat ((bsOf f i n).get! 2).toNat ((bsOf f i n).get! 3).toNat := by
    unfold Lib.decodeGo
    rw [if_neg (by omega), Lib.decode_at, hs]
    rfl
  have e0 := hg 0 (by omega)
  simp only [Nat.add_zero] at e0
  have hfi := hf i hi
  have F := dec_facts (n - i) ((bsOf f i n).get! 0).toNat ((bsOf f i n).get! 1).toNat ((bsOf f i n).get! 2).toNat ((bsOf f i n).get! 3).toNat (by omega) (by omega)
  rw [← hd] at F
  refine ⟨(Lib.decodeGo (bsOf f i n)).1, (Lib.decodeGo (bsOf f i n)).2, rfl, ?_⟩
  generalize (Lib.decodeGo (bsOf f i n)).1 = r at F ⊢
  generalize (Lib.decodeGo (bsOf f i n)).2 = k at F ⊢
  rcases F with ⟨h1, h2⟩ | ⟨h1, h2, h3, h4, h5, g1, g2, g3⟩
  · refine ⟨by omega, by omega, fun j hj1 hj2 => ?_, by omega, by omega, by omega, by omega, by omega⟩
    rw [show j = i from by omega]; exact h8
  · refine ⟨by omega, by omega, fun j hj1 hj2 => ?_, by omega, by omega, by omega, by omega, fun h => (g2 h).2⟩
    obtain ⟨t, rfl⟩ : ∃ t, j = i + t := ⟨j - i, by omega⟩
    have hft := hf (i + t) (by omega)
    match t, hj2, hft with
    | 0, _, _ => exact h8
    | 1, _, hft => have := hg 1 (by omega); omega
    | 2, _, hft => have := hg 2 (by omega); have := (g2 (by omega)).1; omega
    | 3, _, hft => have := hg 3 (by omega); have := g3 (by omega); omega
    | t + 4, hj2, _ => omega

theorem enc_size (r : Nat) (h : 2048 ≤ r) : 3 ≤ (Utf8.encode (r : Int)).size ∧ (Utf8.encode (r : Int)).size ≤ 4 ∧ (r < 65536 → (Utf8.encode (r : Int)).size = 3) := by
  unfold Utf8.encode
  simp only
  have hc : 2048 ≤ (if Utf8.valid (r : Int) then (r : Int).toNat else Utf8.runeError) ∧ (r < 65536 → (if Utf8.valid (r : Int) then (r : Int).toNat else Utf8.runeError) < 65536) := by
    split
    · exact ⟨by omega, fun h => by omega⟩
    · exact ⟨by decide, fun _ => by decide⟩
  generalize (if Utf8.valid (r : Int) then (r : Int).toNat else Utf8.runeError) = c at hc
  rw [if_neg (by omega), if_neg (by omega)]
  split
  · exact ⟨Nat.le_refl 3, Nat.le_succ 3, fun _ => rfl⟩
  · exact ⟨Nat.le_succ 3, Nat.le_refl 4, fun h => by have := hc.2 h; omega⟩

theorem enc_ne (r : Nat) (h : 128 ≤ r) : ([13, 10] == (Utf8.encode (r : Int)).toList) = false := by
  rw [beq_eq_false_iff_ne]
  intro e
  rw [Lib.toList_data] at e
  unfold Utf8.encode at e
  simp only at e
  have hc : 128 ≤ (if Utf8.valid (r : Int) then (r : Int).toNat else Utf8.runeError) := by
    split
    · omega
    · decide
  generalize (if Utf8.valid (r : Int) then (r : Int).toNat else Utf8.runeError) = c at hc e
  rw [if_neg (by omega)] at e
  split at e
  · simp only [List.cons.injEq] at e
    have h1 := congrArg UInt8.toNat e.1
    have h2 : (192 + c / 64) < 256 := by omega
    rw [UInt8.toNat_ofNat'] at h1
    simp only [UInt8.toNat_ofNat] at h1
    omega
  · split at e
    · simp at e
    · simp at e

theorem noE_ext {f : Nat → Int} {k d : Nat} (h : ∀ j, j < k → ¬ (f j = 13 ∨ f j = 10)) (h2 : ∀ j, k ≤ j → j < k + d → 128 ≤ f j) : ∀ j, j < k + d → ¬ (f j = 13 ∨ f j = 10) := fun j hj => by
  by_cases hk : j < k
  · exact h j hk
  · have := h2 j (by omega) hj
    omega

end Go.Proofs.Qxb6000583aDoor
