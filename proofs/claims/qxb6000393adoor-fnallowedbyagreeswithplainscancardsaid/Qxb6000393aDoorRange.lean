/-
  The range over strings.SplitSeq in Match, as one law for this program.
-/
import Derived.Test.Qxb6000393aDoorLoop
namespace Go.Proofs.Qxb6000393aDoor
open Go.RowKit Go.Shelf
attribute [local go_sem] Oper.semAt_some

/-- Behind the loop: the answer's cell still holds false; nothing older has turned; the block for deferred calls is empty. -/
def After (w : World) (D : Nat) (W : World) : Prop :=
  W.heap[w.heap.size + 1]? = some (.cells #[.bool false] 4 (0, 0)) ∧ Below w.heap.size w W ∧ W.heap[D]? = some (.deferred (some [])) ∧ w.heap.size + 1 + 1 + 1 + 1 < D

theorem range_split {a : Act} {assign body : Code} {Q : Exit → Act → World → Prop} (w W1 : World) (mid nm : List UInt8) (hM : HasMax w) (hmid : mid.length < 4294967281) (hnm : nm.length < 4294967281) (hMS : MS w mid nm W1)
    (hg : a.eval (.tmp 56) = .func (.func 47) #[] #[.pointer (some ⟨w.heap.size + 1 + 1 + 1, 0, none⟩), .pointer (some ⟨w.heap.size + 1 + 1, 0, none⟩), .pointer (some ⟨w.heap.size + 1 + 1 + 1 + 1, 0, none⟩)])
    (a₁ : List UInt8 → Act)
    (hassign : ∀ (l : Nat) (run : List UInt8) (W : World) (K : Act → World → Prop), K (a₁ run) W → assign.wpIn (Fence.wide.inRound l) 2 Tryd.prog (Exit.then K (fun _ _ _ => False)) { tmps := a.tmps.setIfInBounds 57 (S run), defers := [] } W)
    (hbody : ∀ (l : Nat) (mid nm run : List UInt8) (W : World), MS w mid nm W → nm.length < 4294967281 → body.wpIn (Fence.wide.inRound l) 2 Tryd.prog (bodyEnd w nm run W) (a₁ run) W)
    (hdone : ∀ (D : Nat) (W : World), runsF (mid.length + 1) mid nm = true → After w D W → Q .normal { a with defers := { target := .collected D, args := #[] } :: a.defers } W)
    (hstop : ∀ (D : Nat) (W : World), runsF (mid.length + 1) mid nm = false → After w D W → Code.ret.wpIn Fence.wide 4 Tryd.prog Q { a with defers := { target := .collected D, args := #[] } :: a.defers } W) :
    (Code.rangeFunc (.tmp 56) #[57] assign body).wpIn Fence.wide 4 Tryd.prog Q a W1 := by
  have eg : ∀ args w, (callFunc 47 args).run Tryd.prog w = .ok (.enter 47 args) w := enters_of Tryd.func47 (by kernel_rfl) rfl
  have hs5 : w.heap.size + 1 + 1 + 1 + 1 < W1.heap.size := (Array.getElem?_eq_some_iff.1 hMS.2.2.2.2.1).1
  refine wpIn_rangeFunc ?_
  intro fn _
  obtain ⟨W2, hW2⟩ : ∃ W2, (W1.alloc (.deferred (some []))).alloc (.loop { state := .ready, pending := none, fn, tmps := a.tmps, params := #[57], assign, body, defers := W1.heap.size }) = W2 := ⟨_, rfl⟩
  have hL : LW w W1.heap.size (W1.heap.size + 1) { state := .ready, pending := none, fn, tmps := a.tmps, params := #[57], assign, body, defers := W1.heap.size } mid nm W2 := by
    obtain ⟨h0, h1, h2, h3, h4, h5⟩ := hMS
    have hk : ∀ k, k < W1.heap.size → W2.heap[k]? = W1.heap[k]? := fun k hk => by
      rw [← hW2, Below.heap_alloc _ _ _ (by simp; omega), Below.heap_alloc _ _ _ hk]
    refine ⟨⟨(hk _ (by omega)).trans h0, (hk _ (by omega)).trans h1, (hk _ (by omega)).trans h2, (hk _ (by omega)).trans h3, (hk _ hs5).trans h4, ?_⟩, ?_, ?_, hs5, Nat.lt_succ_self _⟩
    · rw [← hW2]; exact (h5.alloc h5.size _).alloc (by have := h5.size; simp; omega) _
    · rw [← hW2, Below.heap_alloc _ _ _ (by simp)]; exact heap_alloc_new W1 _
    · rw [← hW2]
      have := heap_alloc_new (W1.alloc (.deferred (some []))) (.loop { state := .ready, pending := none, fn, tmps := a.tmps, params := #[57], assign, body, defers := W1.heap.size })
      rwa [World.size_alloc] at this
  refine ⟨W1.heap.size + 1, [{ target := .collected W1.heap.size, args := #[] }], W2, { target := .fn (.func 47) #[.pointer (some ⟨w.heap.size + 1 + 1 + 1, 0, none⟩), .pointer (some ⟨w.heap.size + 1 + 1, 0, none⟩), .pointer (some ⟨w.heap.size + 1 + 1 + 1 + 1, 0, none⟩)], args := #[.func (.yield (W1.heap.size + 1)) #[] #[]] }, W2, 47, _, W2, ?_, ?_, fun _ _ => trivial, ?_, (fun h => by cases h),
    (iter w W1.heap.size (W1.heap.size + 1) _ 2 hM (fun mid nm run W hn hLW => one_round w _ _ fn a.tmps assign body a₁ mid nm run W 2 hassign hbody hn hLW) mid nm W2 hmid hnm hL).mono ?_⟩
  · rw [← hW2]; exact run_enterLoop_outer _ _ _ _ _
  · simp only [resolve, hg]
    simp [go_sem]
  · simp [invoke, go_sem, eg]
  · rintro e W3 ⟨⟨v, rfl⟩, (⟨hB, mid', nm', hLW⟩ | ⟨hB, hLX⟩)⟩
    · obtain ⟨hMS3, hD3, hl3, h4, h5⟩ := hLW
      have hlt := (Array.getElem?_eq_some_iff.1 hl3).1
      refine ⟨none, _, run_endLoop (P := Tryd.prog) hl3 (by simp), hdone _ _ hB ⟨(World.putObj_heap_other (by omega)).trans hMS3.2.1, ?_, (World.putObj_heap_other (by omega)).trans hD3, hs5⟩⟩
      exact hMS3.2.2.2.2.2.grown (grownBy_putObj' _ _ _) (by omega) (fun k e => by cases e; omega)
    · obtain ⟨h0, h1, hD3, hl3, h4, h5⟩ := hLX
      have hlt := (Array.getElem?_eq_some_iff.1 hl3).1
      refine ⟨some .ret, _, run_endLoop (P := Tryd.prog) hl3 (by simp), hstop _ _ hB ⟨(World.putObj_heap_other (by omega)).trans h0, ?_, (World.putObj_heap_other (by omega)).trans hD3, hs5⟩⟩
      exact h1.grown (grownBy_putObj' _ _ _) (by omega) (fun k e => by cases e; omega)

end Go.Proofs.Qxb6000393aDoor
