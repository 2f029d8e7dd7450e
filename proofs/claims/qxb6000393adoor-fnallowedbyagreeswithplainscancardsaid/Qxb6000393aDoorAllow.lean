/-
  AllowedBy, walked.
-/
import Derived.Test.Qxb6000393aDoorAdd
namespace Go.Proofs.Qxb6000393aDoor
open Go.RowKit

/-- One policy's rules: the (statement, pattern) pairs, the starred patterns. -/
abbrev RS := List (PS × List UInt8) × List QS
/-- The rules lie in a slice. -/
def RulesL (w : World) (v : Value) (RL : List RS) : Prop := ∃ p c, v = .slice p RL.length c ∧ (0 < RL.length → ∃ b o, p = some ⟨b, o, none⟩ ∧ ∀ j, j < RL.length → ∃ vr, w.cell? ⟨b, o + j, none⟩ = some vr ∧ RulesAt w vr (RL[j]?.getD ([], [])).1 (RL[j]?.getD ([], [])).2)
/-- The statements taken for an action. -/
def qt (Q : List QS) (x : List UInt8) : List PS := (Q.filter fun q => anyL q.2 x).map (·.1)
def taken (x : List UInt8) (r : RS) : List PS := lits r.1 x ++ qt r.2 x
def takenL (x : List UInt8) (RL : List RS) : List PS := RL.flatMap (taken x)
theorem takenL_take (x : List UInt8) (RL : List RS) (k : Nat) (h : k < RL.length) (r : RS) (hr : RL[k]?.getD ([], []) = r) : takenL x (RL.take (k + 1)) = takenL x (RL.take k) ++ taken x r := by
  rw [List.getElem?_eq_getElem h] at hr
  have hr' : RL[k] = r := hr
  rw [List.take_succ_eq_append_getElem h, hr']
  unfold takenL
  rw [List.flatMap_append]; simp
theorem takenL_len (x : List UInt8) (RL : List RS) (k : Nat) : (takenL x (RL.take k)).length ≤ (takenL x RL).length := by
  have h : takenL x RL = takenL x (RL.take k) ++ takenL x (RL.drop k) := by
    unfold takenL; rw [← List.flatMap_append, List.take_append_drop]
  rw [h, List.length_append]; omega
theorem qt_take (Q : List QS) (x : List UInt8) (k : Nat) (h : k < Q.length) (q : QS) (hq : Q[k]?.getD (ps0, []) = q) : qt (Q.take (k + 1)) x = if anyL q.2 x = true then qt (Q.take k) x ++ [q.1] else qt (Q.take k) x := by
  rw [List.getElem?_eq_getElem h] at hq
  have hq' : Q[k] = q := hq
  rw [List.take_succ_eq_append_getElem h, hq']
  unfold qt
  rw [List.filter_append]
  by_cases ha : anyL q.2 x = true
  · rw [if_pos ha]; simp [ha]
  · rw [if_neg ha]; simp [ha]
theorem qt_len (Q : List QS) (x : List UInt8) (k : Nat) : (qt (Q.take k) x).length ≤ (qt Q x).length := by
  have h : qt Q x = qt (Q.take k) x ++ qt (Q.drop k) x := by
    unfold qt; rw [← List.map_append, ← List.filter_append, List.take_append_drop]
  rw [h, List.length_append]; omega
theorem take_ps (L : List PS) (k : Nat) (h : k < L.length) (s : PS) (hs : L[k]?.getD ps0 = s) : L.take (k + 1) = L.take k ++ [s] := by
  rw [List.getElem?_eq_getElem h] at hs
  have hs' : L[k] = s := hs
  rw [List.take_succ_eq_append_getElem h, hs']

/-- All that the rules lead to lies in memory, and is small. -/
def GoodR (w : World) (RL : List RS) : Prop := ∀ r ∈ RL, (∀ d ∈ r.1, PS.ok w d.1 ∧ Small d.1.2.2.2.2) ∧ ∀ q ∈ r.2, PS.ok w q.1 ∧ Small q.1.2.2.2.2 ∧ Small q.2
theorem GoodR.lits {w : World} {RL : List RS} (h : GoodR w RL) {r : RS} (hr : r ∈ RL) (x : List UInt8) : ∀ s ∈ lits r.1 x, PS.ok w s ∧ Small s.2.2.2.2 := fun s hs => by
  unfold Qxb6000393aDoor.lits at hs
  obtain ⟨d, hd, rfl⟩ := List.mem_map.1 hs
  exact (h r hr).1 d (List.mem_filter.1 hd).1
theorem GoodR.taken {w : World} {RL : List RS} (h : GoodR w RL) (x : List UInt8) : ∀ s ∈ takenL x RL, PS.ok w s ∧ Small s.2.2.2.2 := fun s hs => by
  unfold takenL at hs
  obtain ⟨r, hr, hs⟩ := List.mem_flatMap.1 hs
  rcases List.mem_append.1 hs with hs | hs
  · exact h.lits hr x s hs
  · obtain ⟨q, hq, rfl⟩ := List.mem_map.1 hs
    have := (h r hr).2 q (List.mem_filter.1 hq).1
    exact ⟨this.1, this.2.1⟩

theorem MA.start (w : World) : MA w.heap.size w [] (w.alloc (.cells #[.slice none 0 0, .slice none 0 0] 52)) :=
  ⟨_, _, heap_alloc_new w _, World.ownsRow_nil _ _ _ _, World.ownsRow_nil _ _ _ _, fun g h => (by cases h), (Below.refl _ w).alloc (Nat.le_refl _) _⟩

set_option maxRecDepth 100000 in
set_option maxHeartbeats 8000000 in
/-- AllowedBy. -/
theorem allowedBy19 (v0 v2 : Value) (RL : List RS) (x : List UInt8) (L : List (List UInt8)) (w : World) (hn : RL.length ≤ 2000000) (hT : (takenL x RL).length ≤ 100000000) (hx : x.length < 4294967281) (hQ : ∀ r ∈ RL, r.2.length ≤ 2000000) (hL : Small L) (hG : GoodR w RL) (hM : HasMax w) (hv : RulesL w v0 RL) (hs : Strs w v2 L) :
    Calls Tryd.prog 19 #[v0, S x, v2] w (AllowedPost (L.filter (okD (takenL x RL))) w) := by
  obtain ⟨p0, c0, rfl, hv⟩ := hv
  have HE : Hid (∀ w', MA w.heap.size w (takenL x RL) w' → Calls Tryd.prog 34 #[.pointer (some ⟨w.heap.size, 0, none⟩), v2] w' (AllowedPost (L.filter (okD (takenL x RL))) w')) := hide fun w' h =>
    allowed34 w.heap.size w (takenL x RL) v2 L w' hT hL h (hM.below h.bw) (fun s hs => ⟨(hG.taken x s hs).1.below h.bw, (hG.taken x s hs).2⟩) (hs.below h.bw)
  have Hv := hide hv
  have HG := hide hG
  have HM := hide hM
  have HQ := hide hQ
  have H0 := hide (MA.start w)
  clear hv hG hM hQ hL hs
  generalize hN : RL.length = n at *
  have HN := hide hN
  clear hN
  go_enter Tryd.func19, Tryd.ntmps19
  go_wp2
  go_loopw [16] (fun i wr => ∃ k : Nat, k ≤ n ∧ i = .int .i64 k ∧ MA w.heap.size w (takenL x (RL.take k)) wr) (fun i _ => n - (intOf i).toNat)
  case atStart => exact ⟨0, Nat.zero_le _, rfl, unhide H0⟩
  case round =>
    obtain ⟨k, hk, rfl, hma⟩ := hrel
    obtain ⟨wo, hwo⟩ : ∃ wo, wo = wr := ⟨_, rfl⟩
    subst hwo
    clear H0
    by_cases hlt : k < n
    · have hlk : k < RL.length := by rw [unhide HN]; exact hlt
      obtain ⟨b, o, rfl, hcs⟩ := unhide Hv (by omega)
      obtain ⟨vr, hvr, hru⟩ := hcs k hlt
      have hmem : RL[k]?.getD ([], []) ∈ RL := by rw [List.getElem?_eq_getElem hlk]; exact List.getElem_mem hlk
      have htk := takenL_take x RL k hlk _ rfl
      have htl := takenL_len x RL (k + 1)
      rw [htk] at htl
      generalize RL[k]?.getD ([], []) = r at *
      have hqn := unhide HQ r hmem
      have hlit := (unhide HG).lits hmem x
      have hqs := (unhide HG r hmem).2
      have hbw := hma.bw
      obtain ⟨rb, mb, vst, M, rfl, r1, r2, hmap, hrows, ps, cs, rfl, hst⟩ := hru
      obtain ⟨pl, cl, hval, hseg⟩ := hrows x
      have c1 := (hbw.cell (p := ⟨b, o + k, none⟩) (World.block_lt_of_cell? _ _ hvr)).trans hvr
      have c2 := (hbw.cell (p := ⟨rb, 0, none⟩) (World.block_lt_of_cell? _ _ r1)).trans r1
      have hlook : (Instr.lookup 54 (.map (some mb)) (S x) false).run Tryd.prog wo = .ok (.slice pl (lits r.1 x).length cl) wo := by
        rw [← hval]
        obtain ⟨es, clock, e1, e2⟩ := hmap
        exact look_run ⟨es, clock, by rw [hbw.block _ (lt_of_heap e1)]; exact e1, e2⟩ x
      have hT1 : (takenL x (RL.take k)).length + (lits r.1 x).length + (qt r.2 x).length ≤ 100000000 := by
        unfold taken at htl
        rw [List.length_append, List.length_append] at htl
        omega
      have Htk := hide htk
      have Hlit := hide hlit
      have Hqs := hide hqs
      have Hr2 := hide r2
      have Hseg := hide hseg
      have Hst := hide hst
      have Hma := hide hma
      clear hcs hvr r1 r2 hmem htk htl hlit hqs hmap hrows hval hseg hst hma hbw hlk Hv HG HQ
      unfold taken at Htk
      generalize takenL x (RL.take k) = D0 at *
      generalize lits r.1 x = LT at *
      generalize r.2 = Q0 at *
      generalize hlN : LT.length = nl at *
      generalize hqN : Q0.length = nq at *
      have HlN := hide hlN
      have HqN := hide hqN
      clear hlN hqN
      go_wp2
      go_loopw [27] (fun i wi => ∃ t : Nat, t ≤ nl ∧ i = .int .i64 t ∧ MA w.heap.size w (D0 ++ LT.take t) wi) (fun i _ => nl - (intOf i).toNat)
      case atStart => exact ⟨0, Nat.zero_le _, rfl, by simpa using unhide Hma⟩
      case round =>
        clear Hma
        obtain ⟨t, ht, rfl, hmi⟩ := hrel
        obtain ⟨wi, hwi⟩ : ∃ wi, wi = wr := ⟨_, rfl⟩
        subst hwi
        by_cases htl : t < nl
        · have htL : t < LT.length := by rw [unhide HlN]; exact htl
          obtain ⟨b1, o1, rfl, hcs⟩ := unhide Hseg (by omega)
          have hck := (hmi.bw.cell (p := ⟨b1, o1 + t, none⟩) (World.block_lt_of_cell? _ _ (hcs t htl))).trans (hcs t htl)
          have htt := take_ps LT t htL _ rfl
          have hsm : LT[t]?.getD ps0 ∈ LT := by rw [List.getElem?_eq_getElem htL]; exact List.getElem_mem htL
          dsimp only at hck
          have hlen : (D0 ++ LT.take t).length ≤ 100000000 := by rw [List.length_append, List.length_take]; omega
          generalize LT[t]?.getD ps0 = s at *
          have HC := hide (add32 w.heap.size w (D0 ++ LT.take t) s wi hlen rfl (unhide Hlit s hsm).1 hmi)
          have Htt := hide htt
          clear htt hsm hcs htL hlen hmi
          obtain ⟨sb, so, se, sA, sR⟩ := s
          replace hck : wi.cell? ⟨b1, o1 + t, none⟩ = some (.pointer (some ⟨sb, so, none⟩)) := hck
          dsimp only at HC
          go_wp2_with (go_at_call 32; refine (unhide HC).mono ?_; rintro e w1 ⟨⟨v1, rfl⟩, hm1⟩; have Hm1 := hide hm1; clear hm1 HC)
          go_roundw
          case rel => exact ⟨t + 1, by omega, by go_num, by rw [unhide Htt, ← List.append_assoc]; exact unhide Hm1⟩
          case measure => simp [intOf]; omega
        · have he : LT.take t = LT := List.take_of_length_le (by rw [unhide HlN]; omega)
          rw [he] at hmi
          have c3 := (hmi.bw.cell (p := ⟨rb, 1, none⟩) (World.block_lt_of_cell? _ _ (unhide Hr2))).trans (unhide Hr2)
          have Hmi := hide hmi
          clear hmi he Hseg Hlit
          go_wp2
          go_loopw [39] (fun i w3 => ∃ t2 : Nat, t2 ≤ nq ∧ i = .int .i64 t2 ∧ MA w.heap.size w (D0 ++ LT ++ qt (Q0.take t2) x) w3) (fun i _ => nq - (intOf i).toNat)
          case atStart => exact ⟨0, Nat.zero_le _, rfl, by simpa [qt] using unhide Hmi⟩
          case round =>
            clear Hmi
            obtain ⟨t2, ht2, rfl, hm3⟩ := hrel
            obtain ⟨w3, hw3⟩ : ∃ w3, w3 = wr := ⟨_, rfl⟩
            subst hw3
            by_cases htq : t2 < nq
            · have htQ : t2 < Q0.length := by rw [unhide HqN]; exact htq
              obtain ⟨bq, oq, rfl, hcq⟩ := unhide Hst (by omega)
              obtain ⟨q1, vp, q2, q3⟩ := hcq t2 htq
              have hqt := qt_take Q0 x t2 htQ _ rfl
              have hql := qt_len Q0 x t2
              have hqm : Q0[t2]?.getD (ps0, []) ∈ Q0 := by rw [List.getElem?_eq_getElem htQ]; exact List.getElem_mem htQ
              generalize Q0[t2]?.getD (ps0, []) = q at *
              have hqok := unhide Hqs q hqm
              have d1 := (hm3.bw.cell (p := ⟨bq, oq + t2 * 2, none⟩) (World.block_lt_of_cell? _ _ q1)).trans q1
              have d2 := (hm3.bw.cell (p := ⟨bq, oq + t2 * 2 + 1, none⟩) (World.block_lt_of_cell? _ _ q2)).trans q2
              have hlen : (D0 ++ LT ++ qt (Q0.take t2) x).length ≤ 100000000 := by rw [List.length_append, List.length_append, unhide HlN]; omega
              obtain ⟨⟨sb, so, se, sA, sR⟩, QP⟩ := q
              obtain ⟨pp, cp, rfl, hsp⟩ := q3
              dsimp only at d1 d2 hsp hqok hqt
              replace d1 : w3.cell? ⟨bq, oq + t2 * 2, none⟩ = some (.pointer (some ⟨sb, so, none⟩)) := d1
              have H33 : Hid (∀ w', Below w.heap.size w w' → Calls Tryd.prog 33 #[.slice pp QP.length cp, S x] w' (MatchPost (anyL QP x) w')) := hide fun w' hB => by
                have := matches33 pp QP.length cp (fun j => QP[j]?.getD []) x w' hqok.2.2.1 hx (fun j hj => hqok.2.2.at j hj) ((unhide HM).below hB) (hsp.below hB)
                rw [anyM_list] at this
                exact this
              have H32 : Hid (∀ w', MA w.heap.size w (D0 ++ LT ++ qt (Q0.take t2) x) w' → Calls Tryd.prog 32 #[.pointer (some ⟨w.heap.size, 0, none⟩), .pointer (some ⟨sb, so, none⟩)] w' (AddPost w.heap.size w (D0 ++ LT ++ qt (Q0.take t2) x) (sb, so, se, sA, sR))) := hide fun w' h => add32 w.heap.size w _ (sb, so, se, sA, sR) w' hlen rfl hqok.1 h
              have hs3 := hm3.size
              have Hm3 := hide hm3
              have HBa : Hid (Below w.heap.size w (w3.alloc (.cells #[.pointer (some ⟨sb, so, none⟩), .slice pp QP.length cp] 61))) := hide (hm3.bw.alloc hm3.bw.size _)
              have Hma : Hid (MA w.heap.size w (D0 ++ LT ++ qt (Q0.take t2) x) (w3.alloc (.cells #[.pointer (some ⟨sb, so, none⟩), .slice pp QP.length cp] 61))) := hide (hm3.below ((Below.refl _ w3).alloc (Nat.le_refl _) _))
              have Hc0 : Hid ((w3.alloc (.cells #[.pointer (some ⟨sb, so, none⟩), .slice pp QP.length cp] 61)).cell? ⟨w3.heap.size, 0, none⟩ = some (.pointer (some ⟨sb, so, none⟩))) := hide (by rw [World.cell?_alloc_at _ _ _ _ rfl]; rfl)
              clear hcq q1 q2 hqm hqok hsp htQ hlen hm3
              generalize hpn : QP.length = np at *
              clear hpn
              cases hany : anyL QP x with
              | false =>
                rw [hany, if_neg (by decide)] at hqt
                rw [hany] at H33
                have Hqt := hide hqt
                clear hqt hany H32
                go_wp2_with (go_at_call 33; refine (unhide H33 _ (unhide HBa)).mono ?_; rintro e w4 ⟨rfl, hB4⟩; have Hm4 := hide ((unhide Hma).below hB4); clear hB4)
                go_roundw
                case rel => exact ⟨t2 + 1, by omega, by go_num, by rw [unhide Hqt]; exact unhide Hm4⟩
                case measure => simp [intOf]; omega
              | true =>
                rw [hany, if_pos rfl] at hqt
                rw [hany] at H33
                have Hqt := hide hqt
                clear hqt hany
                go_wp2_with (first
                  | (go_at_call 33; refine (unhide H33 _ (unhide HBa)).mono ?_; rintro e w4 ⟨rfl, hB4⟩; have Hm4 := hide ((unhide Hma).below hB4); have hq0 : w4.cell? ⟨w3.heap.size, 0, none⟩ = some (.pointer (some ⟨sb, so, none⟩)) := (hB4.cell (p := ⟨w3.heap.size, 0, none⟩) (by simp)).trans (unhide Hc0); clear hB4)
                  | (go_at_call 32; refine (unhide H32 _ (unhide Hm4)).mono ?_; rintro e w5 ⟨⟨v5, rfl⟩, hm5⟩; have Hm5 := hide hm5; clear hm5))
                go_roundw
                case rel => exact ⟨t2 + 1, by omega, by go_num, by rw [unhide Hqt, ← List.append_assoc]; exact unhide Hm5⟩
                case measure => simp [intOf]; omega
            · have he : Q0.take t2 = Q0 := List.take_of_length_le (by rw [unhide HqN]; omega)
              rw [he, List.append_assoc, ← unhide Htk] at hm3
              have Hm3 := hide hm3
              clear hm3 he Hst Hqs Htk
              go_wp2
              exact ⟨⟨k + 1, by omega, by go_num, unhide Hm3⟩, by simp [intOf]; omega⟩
    · have hkn : k = n := by omega
      subst hkn
      rw [List.take_of_length_le (by rw [unhide HN]; exact Nat.le_refl _)] at hma
      have HC := hide (unhide HE wo hma)
      have HBo := hide hma.bw
      clear hma HE Hv HG HQ HM hT
      generalize L.filter (okD (takenL x RL)) = F at *
      go_wp2_with (go_at_call 34; refine (unhide HC).mono ?_; rintro e w1 ⟨p1, c1, rfl, h1, hB1⟩; have HP : Hid (AllowedPost F w (.returned (.slice p1 F.length c1)) w1) := hide ⟨p1, c1, rfl, h1, (unhide HBo).trans (hB1.mono (unhide HBo).size)⟩; clear h1 hB1)
      go_ret
      exact unhide HP

end Go.Proofs.Qxb6000393aDoor
