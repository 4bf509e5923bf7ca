/-
  'resp.SplitArgs' walked: the loops.
-/
import Derived.Test.Qxb6603819aSplit
namespace Go.Proofs.Qxb6603819a
open Go.RowKit

theorem rd_tail {w : World} {b off n : Nat} {zs : List Int} (h : Rd w (some ⟨b, off, none⟩) n zs) (j : Nat) (hj : j ≤ n) : Rd w (some ⟨b, off + j, none⟩) (n - j) (zs.drop j) := by
  have hl := h.hlen
  refine ⟨by simp [hl], fun z hz => h.b8 z (List.mem_of_mem_drop hz), fun hp => ?_⟩
  obtain ⟨b', off', e, hc⟩ := h.cells (by omega)
  simp only [Option.some.injEq, Addr.mk.injEq, and_true] at e
  obtain ⟨rfl, rfl⟩ := e
  refine ⟨b, off + j, rfl, fun i hi => ?_⟩
  rw [Nat.add_assoc, hc (j + i) (by omega)]
  simp

theorem hold_low {B : Nat} {w : World} {v : Value} {zs : List Int} (own : Own B w v zs) {b o n : Nat} (hb : b < B) (hB : B ≤ w.heap.size) : ∀ x, some (⟨b, o, none⟩ : Addr) = some x → 0 < n → x.block < w.heap.size ∧ some x.block ≠ v.ownBlock := by
  intro x hx _
  simp only [Option.some.injEq] at hx
  subst hx
  refine ⟨by show b < _; omega, fun e => ?_⟩
  have := (World.ownsRow.lt own b e.symm).1
  omega

set_option maxRecDepth 100000 in
set_option maxHeartbeats 8000000 in
theorem split_walk (b off n c : Nat) (zs : List Int) (w : World) (hrd : Rd w (some ⟨b, off, none⟩) n zs) (hb : b < w.heap.size) (hcap : n ≤ c) (hm : n ≤ 10000000) (hn0 : 0 < n) :
    Calls Try.prog 16 #[.slice (some ⟨b, off, none⟩) n c] w (SPost w (SP none zs)) := by
  obtain ⟨i0, hi, hz0, hz1, hz2⟩ := info_parts Try.info5
  obtain ⟨i2, hi2, hy0, hy1, hy2⟩ := info_parts Try.info22
  have HL : Hid (zs.length = n) := hrd.hlen
  have h8 := hid hrd.b8
  have hcW : ∀ wx, Below w.heap.size w wx → Rd wx (some ⟨b, off, none⟩) n zs := fun wx hx => hrd.mono hx (fun x hx => by simp at hx; subst hx; exact hb)
  have HC := hid hcW
  clear hcW hrd
  go_enter Try.func16, Try.ntmps16
  go_wp2
  go_loopw [2, 4] (fun v i wr => ∃ k : Nat, ∃ accs : List (List Int), k ≤ n ∧ i = .int .i64 k ∧ SRel zs w k v wr accs) (fun _ i _ => n - (intOf i).toNat)
  case atStart => exact ⟨0, [], Nat.zero_le _, rfl, Args.nil _ _ _, Below.refl _ _, by simp, by rw [List.drop_zero]; cases SP none zs <;> rfl, by simp⟩
  case round =>
    obtain ⟨k, accs, hk, rfl, S⟩ := hrel
    obtain ⟨wo, hwo⟩ : ∃ wo, wo = wr := ⟨_, rfl⟩
    subst hwo
    have S := hid S
    have RO := hid (HC.out wo S.out.bel)
    go_wp2
    go_loop [4] (fun i => ∃ j : Nat, k ≤ j ∧ j ≤ n ∧ i = .int .i64 j ∧ Hid (SP none (zs.drop k) = SP none (zs.drop j))) (fun i => n - (intOf i).toNat)
    case atStart => exact ⟨k, Nat.le_refl _, hk, rfl, rfl⟩
    case round =>
      obtain ⟨j, hkj, hj, rfl, HV⟩ := hrel
      by_cases hlt : j < n
      · obtain ⟨b', off', e, hc⟩ := RO.out.cells (by omega)
        simp only [Option.some.injEq, Addr.mk.injEq, and_true] at e
        obtain ⟨rfl, rfl⟩ := e
        have hcj := hc j hlt
        simp at hcj
        have D0 := hid (dropc zs j (by rw [HL.out]; exact hlt))
        clear hc
        cases hs : spc (zs[j]?.getD 0) with
        | true =>
          go_wp2_with (go_at_call 26; refine (isSpace_any _ _).mono ?_; rintro e w' ⟨rfl, hw⟩; have hw := hw.symm; subst hw)
          go_round
          case rel => exact ⟨j + 1, by omega, by omega, by go_num, by rw [Hid, HV.out, D0.out, SP_skip _ hs]⟩
          case measure => simp [intOf]; omega
        | false =>
          have hne : ((j : Int) == (n : Int)) = false := by simp; omega
          have I0 := hid (S.out.start hkj (by rw [HL.out]; exact hlt) HV.out hs)
          go_wp2_with (go_at_call 26; refine (isSpace_any _ _).mono ?_; rintro e w' ⟨rfl, hw⟩; have hw := hw.symm; subst hw)
          obtain ⟨v2, hv2⟩ : ∃ v2, v2 = u2 := ⟨_, rfl⟩
          subst hv2
          go_loopw [2, 4, 5] (fun x i v5 wx => ∃ q : Nat, ∃ cur : List Int, q ≤ n ∧ i = .int .i64 q ∧ x = v2 ∧ IRel zs w.heap.size k accs wo q cur v5 wx) (fun _ i _ _ => n - (intOf i).toNat)
          case atStart => exact ⟨j, [], hj, rfl, rfl, I0.out⟩
          case round =>
            clear I0 hcj hs hne D0
            obtain ⟨q, cur, hq, rfl, rfl, I⟩ := hrel
            have I := hid I
            have RX := hid (HC.out wr (S.out.bel.trans (I.out.bel.mono S.out.bel.size)))
            have lc := I.out.len
            have sz0 := S.out.bel.size
            have sz2 := I.out.bel.size
            have sz1 : w.heap.size ≤ wr.heap.size := by omega
            have la := S.out.len
            by_cases hql : q < n
            · obtain ⟨b', off', e, hc⟩ := RX.out.cells (by omega)
              simp only [Option.some.injEq, Addr.mk.injEq, and_true] at e
              obtain ⟨rfl, rfl⟩ := e
              have hcq := hc q hql
              simp at hcq
              have D0 := hid (dropc zs q (by rw [HL.out]; exact hql))
              clear hc
              cases hs : spc (zs[q]?.getD 0) with
              | true =>
                have HA := hid (show okAfter (zs.drop q) = true by rw [D0.out]; exact hs)
                obtain ⟨vs, hv0, he0⟩ := S.out.args.ex
                have kb : ∀ z, z < wo.heap.size → wr.heap[z]? = wo.heap[z]? := fun z hz => I.out.bel.block z hz
                have hv := row_keep hv0 S.out.args.row kb
                have he := hid (he0.keep kb)
                obtain ⟨p5, m5, c5, h5⟩ := I.out.own.slice
                subst h5
                clear hv0 he0 kb
                go_wp2_with (first | (at_builtin; refine wpList_append_own_at _ rfl _ _ 30 rfl w.heap.size 22 i2 (.slice none 0 0) 1 24 Try.underlying30 hi2 hy0 hy1 hy2 rfl (by decide) _ _ _ rfl (hv.alloc _) ⟨wr.heap.size, 0, none⟩ 1 1 [.slice p5 m5 c5] rfl rfl (cell_one_new _ _ _) ?c2 ?c3 ?c4 ?c5 ?_) | (go_at_call 26; refine (isSpace_any _ _).mono ?_; rintro e w' ⟨rfl, hw⟩; have hw := hw.symm; subst hw))
                case c2 => first | rfl | (intro u hu; simp at hu; subst hu; rfl)
                case c3 => first | (simp [maxLen]; omega) | (unfold maxLen; omega)
                case c4 => first | omega | (simp; omega)
                case c5 => first | omega | (simp; omega)
                intro v' w1 hown' hgrow hnil hat
                have P := hid (I.out.fin S.out HA.out hv he.out hown' hgrow hnil)
                clear hown' hgrow hnil hat I hv he
                go_wp2
                go_roundw
                case rel => exact ⟨q, _, by omega, rfl, P.out.1⟩
                case measure => have := P.out.2; simp [intOf]; omega
              | false =>
                by_cases hq : zs[q]?.getD 0 = 34
                · skip
                  have D1 := hid (show zs.drop q = 34 :: zs.drop (q + 1) by rw [D0.out, hq])
                  have HQ := hid (SP_dq cur (zs.drop (q + 1)))
                  have q1 : (zs[q]?.getD 0 == 34) = true := by simp [hq]
                  clear hq
                  by_cases h1n : q + 1 < n
                  · have rd1 := rd_tail RX.out (q + 1) (by omega)
                    go_wp2_with (go_at_call 26; refine (isSpace_any _ _).mono ?_; rintro e w' ⟨rfl, hw⟩; have hw := hw.symm; subst hw)
                    refine (adq_walk w.heap.size u5 cur _ _ _ (zs.drop (q + 1)) _ I.out.own sz1 rd1 (hold_low I.out.own hb sz1) (by omega)).mono ?_
                    intro e w1 hp
                    have hout := hid (adq_b8 _ (zs.drop (q + 1)) (Nat.le_refl _) (fun z hz => h8.out z (List.mem_of_mem_drop hz)))
                    cases ho : adq (zs.drop (q + 1)) with
                    | none =>
                      rw [ho] at hp
                      obtain ⟨rfl, v', hg⟩ := hp
                      have P := hid (IRel.none S.out I.out (by rw [D1.out, HQ.out, ho]) hg)
                      clear hg ho
                      go_wp2
                      go_ret2
                      exact P.out
                    | some p =>
                      obtain ⟨d, m⟩ := p
                      rw [ho] at hp
                      obtain ⟨v', rfl, own1, hg, hn⟩ := hp
                      have hb1 := hout.out d m ho
                      have HO := hid ho
                      have dl : d.length + 1 ≤ m := hb1.2.1
                      have ml : m ≤ n - (q + 1) := by have := hb1.2.2; rw [rd1.hlen] at this; exact this
                      have RY := hid (HC.out w1 ((S.out.bel.trans (I.out.bel.mono S.out.bel.size)).trans (hg.below sz1 (fun z hz => (World.ownsRow.lt I.out.own z hz).1))))
                      clear ho hb1 hout
                      have wk1 : (1 : Int) + m ≤ 10000001 := by omega
                      by_cases hend : q + (1 + m) < n
                      · obtain ⟨b'', off'', e2, hc2⟩ := RY.out.cells (by omega)
                        simp only [Option.some.injEq, Addr.mk.injEq, and_true] at e2
                        obtain ⟨rfl, rfl⟩ := e2
                        have hcm := hc2 (q + (1 + m)) hend
                        simp at hcm
                        have D2 := hid (dropc zs (q + (1 + m)) (by rw [HL.out]; exact hend))
                        have e3 : ((q : Int) + (1 + (m : Int))).toNat = q + (1 + m) := by omega
                        clear hc2
                        cases hs2 : spc (zs[q + (1 + m)]?.getD 0) with
                        | true =>
                          have P := hid (I.out.quote (f := adq) D1.out HQ.out HO.out (by omega) own1 hg hn (by rw [D2.out]; exact hs2))
                          clear own1 hg hn I
                          go_wp2_with (go_at_call 26; refine (isSpace_any _ _).mono ?_; rintro e w' ⟨rfl, hw⟩; have hw := hw.symm; subst hw)
                          go_roundw
                          case rel => exact ⟨q + (1 + m), _, by omega, by go_num, rfl, P.out⟩
                          case measure => simp [intOf]; omega
                        | false =>
                          have P := hid (IRel.none S.out I.out (by rw [D1.out, HQ.out, HO.out]; simp only [List.drop_drop]; rw [show q + 1 + m = q + (1 + m) by omega, D2.out, if_neg (by show ¬ spc _ = true; rw [hs2]; simp)]) hg)
                          clear own1 hg hn I
                          go_wp2_with (go_at_call 26; refine (isSpace_any _ _).mono ?_; rintro e w' ⟨rfl, hw⟩; have hw := hw.symm; subst hw)
                          go_ret2
                          exact P.out
                      · have P := hid (I.out.quote (f := adq) D1.out HQ.out HO.out (by omega) own1 hg hn (by rw [List.drop_eq_nil_of_le (by rw [HL.out]; omega)]; rfl))
                        clear own1 hg hn I
                        go_wp2
                        go_roundw
                        case rel => exact ⟨q + (1 + m), _, by omega, by go_num, rfl, P.out⟩
                        case measure => simp [intOf]; omega
                  · have E0 := hid (show zs.drop (q + 1) = [] from List.drop_eq_nil_of_le (by rw [HL.out]; omega))
                    have hq1 : n = q + 1 := by omega
                    subst hq1
                    by_cases hcn : c = q + 1
                    all_goals
                      go_wp2_with (go_at_call 26; refine (isSpace_any _ _).mono ?_; rintro e w' ⟨rfl, hw⟩; have hw := hw.symm; subst hw)
                      refine (adq_walk w.heap.size u5 cur _ _ _ [] _ I.out.own sz1 (rd_nil _ _) (fun x hx h0 => by omega) (by simp; omega)).mono ?_
                      rw [adq_nil]
                      rintro e w1 ⟨rfl, v', hg⟩
                      have P := hid (IRel.none S.out I.out (by rw [D1.out, HQ.out, E0.out, adq_nil]) hg)
                      clear hg
                      go_wp2
                      go_ret2
                      exact P.out
                by_cases hq' : zs[q]?.getD 0 = 39
                · have hq := hq'
                  clear hq'
                  have D1 := hid (show zs.drop q = 39 :: zs.drop (q + 1) by rw [D0.out, hq])
                  have HQ := hid (SP_sq cur (zs.drop (q + 1)))
                  have q1 : (zs[q]?.getD 0 == 34) = false := by simp [hq]
                  have q2 : (zs[q]?.getD 0 == 39) = true := by simp [hq]
                  clear hq
                  by_cases h1n : q + 1 < n
                  · have rd1 := rd_tail RX.out (q + 1) (by omega)
                    go_wp2_with (go_at_call 26; refine (isSpace_any _ _).mono ?_; rintro e w' ⟨rfl, hw⟩; have hw := hw.symm; subst hw)
                    refine (asq_walk w.heap.size u5 cur _ _ _ (zs.drop (q + 1)) _ I.out.own sz1 rd1 (hold_low I.out.own hb sz1) (by omega)).mono ?_
                    intro e w1 hp
                    have hout := hid (asq_b8 _ (zs.drop (q + 1)) (Nat.le_refl _) (fun z hz => h8.out z (List.mem_of_mem_drop hz)))
                    cases ho : asq (zs.drop (q + 1)) with
                    | none =>
                      rw [ho] at hp
                      obtain ⟨rfl, v', hg⟩ := hp
                      have P := hid (IRel.none S.out I.out (by rw [D1.out, HQ.out, ho]) hg)
                      clear hg ho
                      go_wp2
                      go_ret2
                      exact P.out
                    | some p =>
                      obtain ⟨d, m⟩ := p
                      rw [ho] at hp
                      obtain ⟨v', rfl, own1, hg, hn⟩ := hp
                      have hb1 := hout.out d m ho
                      have HO := hid ho
                      have dl : d.length + 1 ≤ m := hb1.2.1
                      have ml : m ≤ n - (q + 1) := by have := hb1.2.2; rw [rd1.hlen] at this; exact this
                      have RY := hid (HC.out w1 ((S.out.bel.trans (I.out.bel.mono S.out.bel.size)).trans (hg.below sz1 (fun z hz => (World.ownsRow.lt I.out.own z hz).1))))
                      clear ho hb1 hout
                      have wk1 : (1 : Int) + m ≤ 10000001 := by omega
                      by_cases hend : q + (1 + m) < n
                      · obtain ⟨b'', off'', e2, hc2⟩ := RY.out.cells (by omega)
                        simp only [Option.some.injEq, Addr.mk.injEq, and_true] at e2
                        obtain ⟨rfl, rfl⟩ := e2
                        have hcm := hc2 (q + (1 + m)) hend
                        simp at hcm
                        have D2 := hid (dropc zs (q + (1 + m)) (by rw [HL.out]; exact hend))
                        have e3 : ((q : Int) + (1 + (m : Int))).toNat = q + (1 + m) := by omega
                        clear hc2
                        cases hs2 : spc (zs[q + (1 + m)]?.getD 0) with
                        | true =>
                          have P := hid (I.out.quote (f := asq) D1.out HQ.out HO.out (by omega) own1 hg hn (by rw [D2.out]; exact hs2))
                          clear own1 hg hn I
                          go_wp2_with (go_at_call 26; refine (isSpace_any _ _).mono ?_; rintro e w' ⟨rfl, hw⟩; have hw := hw.symm; subst hw)
                          go_roundw
                          case rel => exact ⟨q + (1 + m), _, by omega, by go_num, rfl, P.out⟩
                          case measure => simp [intOf]; omega
                        | false =>
                          have P := hid (IRel.none S.out I.out (by rw [D1.out, HQ.out, HO.out]; simp only [List.drop_drop]; rw [show q + 1 + m = q + (1 + m) by omega, D2.out, if_neg (by show ¬ spc _ = true; rw [hs2]; simp)]) hg)
                          clear own1 hg hn I
                          go_wp2_with (go_at_call 26; refine (isSpace_any _ _).mono ?_; rintro e w' ⟨rfl, hw⟩; have hw := hw.symm; subst hw)
                          go_ret2
                          exact P.out
                      · have P := hid (I.out.quote (f := asq) D1.out HQ.out HO.out (by omega) own1 hg hn (by rw [List.drop_eq_nil_of_le (by rw [HL.out]; omega)]; rfl))
                        clear own1 hg hn I
                        go_wp2
                        go_roundw
                        case rel => exact ⟨q + (1 + m), _, by omega, by go_num, rfl, P.out⟩
                        case measure => simp [intOf]; omega
                  · have E0 := hid (show zs.drop (q + 1) = [] from List.drop_eq_nil_of_le (by rw [HL.out]; omega))
                    have hq1 : n = q + 1 := by omega
                    subst hq1
                    by_cases hcn : c = q + 1
                    all_goals
                      go_wp2_with (go_at_call 26; refine (isSpace_any _ _).mono ?_; rintro e w' ⟨rfl, hw⟩; have hw := hw.symm; subst hw)
                      refine (asq_walk w.heap.size u5 cur _ _ _ [] _ I.out.own sz1 (rd_nil _ _) (fun x hx h0 => by omega) (by simp; omega)).mono ?_
                      rw [asq_nil]
                      rintro e w1 ⟨rfl, v', hg⟩
                      have P := hid (IRel.none S.out I.out (by rw [D1.out, HQ.out, E0.out, asq_nil]) hg)
                      clear hg
                      go_wp2
                      go_ret2
                      exact P.out
                have q1 : (zs[q]?.getD 0 == 34) = false := by simp [hq]
                have q2 : (zs[q]?.getD 0 == 39) = false := by simp [hq']
                have n1 := hid hq
                have n2 := hid hq'
                clear hq hq'
                go_wp2_with (first | (at_builtin; refine wpList_append_own_at _ rfl _ _ 22 rfl w.heap.size 5 i0 (.int .u8 0) 1 1 Try.underlying22 hi hz0 hz1 hz2 rfl (by decide) _ _ _ rfl (I.out.own.alloc _) ⟨wr.heap.size, 0, none⟩ 1 1 [.int .u8 (zs[q]?.getD 0)] rfl rfl (cell_one_new _ _ _) ?c2 ?c3 ?c4 ?c5 ?_) | (go_at_call 26; refine (isSpace_any _ _).mono ?_; rintro e w' ⟨rfl, hw⟩; have hw := hw.symm; subst hw))
                case c2 => first | rfl | (intro u hu; simp at hu; subst hu; rfl)
                case c3 => first | (simp [maxLen]; omega) | (unfold maxLen; omega)
                case c4 => first | (simp; omega) | omega
                case c5 => first | (simp; omega) | omega
                intro v' w1 hown' hgrow hnil hat
                have P := hid (I.out.put D0.out hs n1.out n2.out hown' hgrow hnil (by simpa using hat))
                clear hown' hgrow hnil hat I
                go_wp2
                go_roundw
                case rel => exact ⟨q + 1, _, by omega, by go_num, rfl, P.out⟩
                case measure => simp [intOf]; omega
            · skip
              have HA := hid (show okAfter (zs.drop q) = true by rw [List.drop_eq_nil_of_le (by rw [HL.out]; omega)]; rfl)
              obtain ⟨vs, hv0, he0⟩ := S.out.args.ex
              have kb : ∀ z, z < wo.heap.size → wr.heap[z]? = wo.heap[z]? := fun z hz => I.out.bel.block z hz
              have hv := row_keep hv0 S.out.args.row kb
              have he := hid (he0.keep kb)
              obtain ⟨p5, m5, c5, h5⟩ := I.out.own.slice
              subst h5
              clear hv0 he0 kb
              go_wp2_with (first | (at_builtin; refine wpList_append_own_at _ rfl _ _ 30 rfl w.heap.size 22 i2 (.slice none 0 0) 1 24 Try.underlying30 hi2 hy0 hy1 hy2 rfl (by decide) _ _ _ rfl (hv.alloc _) ⟨wr.heap.size, 0, none⟩ 1 1 [.slice p5 m5 c5] rfl rfl (cell_one_new _ _ _) ?c2 ?c3 ?c4 ?c5 ?_))
              case c2 => first | rfl | (intro u hu; simp at hu; subst hu; rfl)
              case c3 => first | (simp [maxLen]; omega) | (unfold maxLen; omega)
              case c4 => first | omega | (simp; omega)
              case c5 => first | omega | (simp; omega)
              intro v' w1 hown' hgrow hnil hat
              have P := hid (I.out.fin S.out HA.out hv he.out hown' hgrow hnil)
              clear hown' hgrow hnil hat I hv he
              go_wp2
              go_roundw
              case rel => exact ⟨q, _, by omega, rfl, P.out.1⟩
              case measure => have := P.out.2; simp [intOf]; omega
      · have hne : ((j : Int) == (n : Int)) = true := by simp; omega
        have P := hid (S.out.fin (by rw [HV.out, List.drop_eq_nil_of_le (by rw [HL.out]; omega)]))
        go_wp2
        go_ret2
        exact P.out

end Go.Proofs.Qxb6603819a
