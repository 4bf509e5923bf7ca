/-
  'modelSplit' walked: it computes 'SP none' too.
-/
import Derived.Test.Qxb6603819aMach
namespace Go.Proofs.Qxb6603819a
open Go.RowKit
set_option linter.unusedVariables false

def stN (v : Value) : Nat := if intOf v = 0 ∨ intOf v = 4 ∨ intOf v = 5 ∨ intOf v = 7 then 1 else 0
theorem stN_le (v : Value) : stN v ≤ 1 := by unfold stN; split <;> omega
def MSt (st h : Int) : Prop := st = 0 ∨ st = 1 ∨ st = 8 ∨ SqSt st ∨ DqSt st h

theorem TRel.move {zs : List Int} {w : World} {k : Nat} {st h : Int} {v4 v5 : Value} {wr : World} {accs : List (List Int)} {cur : List Int} (R : TRel zs w k st h v4 v5 wr accs cur) (h0 : st ≠ 0) {st' h' : Int} {k' : Nat} (h0' : st' ≠ 0) (hv : mean st h cur (zs.drop k) = mean st' h' cur (zs.drop k')) (hk : k ≤ k') (hl : cur.length + back st' h' ≤ k') : TRel zs w k' st' h' v4 v5 wr accs cur := by
  have hlen := R.len
  exact ⟨fun e => absurd e h0', fun _ => R.inn h0, R.bel, R.nil, by rw [R.val, hv], by omega, hl⟩

set_option maxRecDepth 100000 in
set_option maxHeartbeats 8000000 in
theorem mach_walk (a : Option Addr) (n c : Nat) (zs : List Int) (w : World) (hrd : Rd w a n zs) (hold : ∀ x, a = some x → 0 < n → x.block < w.heap.size) (hm : n ≤ 10000000) :
    Calls Try.prog 17 #[.slice a n c] w (SPost w (SP none zs)) := by
  obtain ⟨i0, hi, hz0, hz1, hz2⟩ := info_parts Try.info5
  obtain ⟨i2, hi2, hy0, hy1, hy2⟩ := info_parts Try.info22
  have HL : Hid (zs.length = n) := hrd.hlen
  go_enter Try.func17, Try.ntmps17
  go_wp2
  go_loopw [4, 5, 6, 7, 8] (fun v4 v5 s hh i wr => ∃ k : Nat, ∃ st h : Int, ∃ accs : List (List Int), ∃ cur : List Int, k ≤ n ∧ i = .int .i64 k ∧ s = .int .i64 st ∧ hh = .int .u8 h ∧ MSt st h ∧ TRel zs w k st h v4 v5 wr accs cur) (fun _ _ s _ i _ => 2 * (n - (intOf i).toNat) + stN s)
  case atStart => exact ⟨0, 0, 0, [], [], Nat.zero_le _, rfl, rfl, rfl, .inl rfl, fun _ => Args.nil _ _ _, fun e => absurd rfl e, Below.refl _ _, by simp, by rw [mean_0, List.drop_zero]; cases SP none zs <;> rfl, by simp, by simp [back, pend]⟩
  case round =>
    obtain ⟨k, st, h, accs, cur, hk, rfl, rfl, rfl, MS, R⟩ := hrel
    have R := hid R
    have hla := R.out.len
    have hcl := R.out.cl
    have hsz := R.out.bel.size
    by_cases hlt : k < n
    · obtain ⟨b, off, rfl, hc⟩ := hrd.cells (by omega)
      have hb := hold _ rfl (by omega)
      have hbk := hrd.b8.at k
      have hck : wr.cell? ⟨b, off + k, none⟩ = some (.int .u8 (zs[k]?.getD 0)) := by rw [R.out.bel.cell (by exact hb), hc k hlt]; simp
      have D0 := hid (dropc zs k (by rw [HL.out]; exact hlt))
      clear hc hb hold hrd
      rcases MS with rfl | rfl | rfl | SD | SD
      · cases hs : spc (zs[k]?.getD 0) with
        | true =>
          have P := hid (R.out.skip D0.out hs)
          clear R
          go_wp2_with (go_at_call 29; refine (white_any _ _).mono ?_; rintro e w' ⟨rfl, hw⟩; have hw := hw.symm; subst hw)
          go_roundw
          case rel => exact ⟨k + 1, 0, h, _, _, by omega, by go_num, rfl, rfl, .inl rfl, P.out⟩
          case measure => simp [intOf, stN]; omega
        | false =>
          have P := hid (R.out.open D0.out hs)
          clear R
          go_wp2_with (go_at_call 29; refine (white_any _ _).mono ?_; rintro e w' ⟨rfl, hw⟩; have hw := hw.symm; subst hw)
          go_roundw
          case rel => exact ⟨k, 1, h, _, _, by omega, rfl, rfl, rfl, .inr (.inl rfl), P.out⟩
          case measure => simp [intOf, stN]
      · cases hs : spc (zs[k]?.getD 0) with
        | true =>
          obtain ⟨M, C⟩ := R.out.inn (by omega)
          have C := hid C
          obtain ⟨vs, hr, he⟩ := C.out.args.ex
          have he := hid he
          obtain ⟨p5, m5, c5, h5⟩ := C.out.own.slice
          subst h5
          have HV := hid (show mean 1 h cur (zs.drop k) = (SP none (zs.drop (k + 1))).map (fun t => cur :: t) by rw [mean_1, D0.out, SP_white _ _ hs])
          go_wp2_with (first | (at_builtin; refine wpList_append_own_at _ rfl _ _ 30 rfl w.heap.size 22 i2 (.slice none 0 0) 1 24 Try.underlying30 hi2 hy0 hy1 hy2 rfl (by decide) _ _ _ rfl (hr.alloc _) ⟨wr.heap.size, 0, none⟩ 1 1 [.slice p5 m5 c5] rfl rfl (cell_one_new _ _ _) ?c2 ?c3 ?c4 ?c5 ?_) | (go_at_call 29; refine (white_any _ _).mono ?_; rintro e w' ⟨rfl, hw⟩; have hw := hw.symm; subst hw))
          case c2 => first | rfl | (intro u hu; simp at hu; subst hu; rfl)
          case c3 => first | (simp [maxLen]; omega) | (unfold maxLen; omega)
          case c4 => first | omega | (simp; omega)
          case c5 => first | omega | (simp; omega)
          intro v' w1 hown' hgrow hnil hat
          have P := hid (R.out.close C.out HV.out (by omega) hr he.out hown' hgrow hnil)
          clear hown' hgrow hnil hat C hr he R
          go_wp2
          go_roundw
          case rel => exact ⟨k + 1, 0, h, _, _, by omega, by go_num, rfl, rfl, .inl rfl, P.out⟩
          case measure => simp [intOf, stN]; omega
        | false =>
          by_cases hq : zs[k]?.getD 0 = 34
          · have q1 : (zs[k]?.getD 0 == 34) = true := by simp [hq]
            have P := hid (R.out.move (by omega) (st' := 2) (h' := h) (k' := k + 1) (by omega) (by rw [mean_1, mean_d (.inl rfl), D0.out, hq, SP_dq]; rfl) (by omega) (by simp [back, pend]; omega))
            clear R hq
            go_wp2_with (go_at_call 29; refine (white_any _ _).mono ?_; rintro e w' ⟨rfl, hw⟩; have hw := hw.symm; subst hw)
            go_roundw
            case rel => exact ⟨k + 1, 2, h, _, _, by omega, by go_num, rfl, rfl, .inr (.inr (.inr (.inr (.inl rfl)))), P.out⟩
            case measure => simp [intOf, stN]; omega
          have q1 : (zs[k]?.getD 0 == 34) = false := by simp [hq]
          by_cases hq' : zs[k]?.getD 0 = 39
          · have q2 : (zs[k]?.getD 0 == 39) = true := by simp [hq']
            have P := hid (R.out.move (by omega) (st' := 6) (h' := h) (k' := k + 1) (by omega) (by rw [mean_1, mean_s (.inl rfl), D0.out, hq', SP_sq]; rfl) (by omega) (by simp [back, pendS]; omega))
            clear R hq hq'
            go_wp2_with (go_at_call 29; refine (white_any _ _).mono ?_; rintro e w' ⟨rfl, hw⟩; have hw := hw.symm; subst hw)
            go_roundw
            case rel => exact ⟨k + 1, 6, h, _, _, by omega, by go_num, rfl, rfl, .inr (.inr (.inr (.inl (.inl rfl)))), P.out⟩
            case measure => simp [intOf, stN]; omega
          · have q2 : (zs[k]?.getD 0 == 39) = false := by simp [hq']
            obtain ⟨M, C⟩ := R.out.inn (by omega)
            have C := hid C
            have HV := hid (show mean 1 h cur (zs.drop k) = mean 1 h (cur ++ [zs[k]?.getD 0]) (zs.drop (k + 1)) by rw [mean_1, mean_1, D0.out, SP_bare _ _ hs hq hq'])
            clear hq hq'
            go_wp2_with (first | (at_builtin; refine wpList_append_own_at _ rfl _ _ 22 rfl w.heap.size 5 i0 (.int .u8 0) 1 1 Try.underlying22 hi hz0 hz1 hz2 rfl (by decide) _ _ _ rfl (C.out.own.alloc _) ⟨wr.heap.size, 0, none⟩ 1 1 [.int .u8 (zs[k]?.getD 0)] rfl rfl (cell_one_new _ _ _) ?c2 ?c3 ?c4 ?c5 ?_) | (go_at_call 29; refine (white_any _ _).mono ?_; rintro e w' ⟨rfl, hw⟩; have hw := hw.symm; subst hw))
            case c2 => first | rfl | (intro u hu; simp at hu; subst hu; rfl)
            case c3 => first | (simp [maxLen]; omega) | (unfold maxLen; omega)
            case c4 => first | (simp; omega) | omega
            case c5 => first | (simp; omega) | omega
            intro v' w1 hown' hgrow hnil hat
            have A1 : Own w.heap.size w1 v' (cur ++ [zs[k]?.getD 0]) ∧ Gr wr u5 w1 v' := by
              refine ⟨own_snoc (ys := [_]) hown', ((Gr.refl wr u5).alloc _).step hgrow ?_⟩
              have hat' : v'.ownBlock = u5.ownBlock ∨ v'.ownBlock = some (wr.heap.size + 1) := by simpa using hat
              rcases hat' with e | e
              · exact .inl e
              · exact .inr ⟨_, e, by simp⟩
            have P := hid (R.out.grow (by omega) A1.1 A1.2 (by simp [hnil]) (st' := 1) (h' := h) (k' := k + 1) (by omega) HV.out (by omega) (by simp [back, pend]; omega))
            clear hown' hgrow hnil hat C R A1
            go_wp2
            go_roundw
            case rel => exact ⟨k + 1, 1, h, _, _, by omega, by go_num, rfl, rfl, .inr (.inl rfl), P.out⟩
            case measure => simp [intOf, stN]; omega
      · cases hs : spc (zs[k]?.getD 0) with
        | true =>
          obtain ⟨M, C⟩ := R.out.inn (by omega)
          have C := hid C
          obtain ⟨vs, hr, he⟩ := C.out.args.ex
          have he := hid he
          obtain ⟨p5, m5, c5, h5⟩ := C.out.own.slice
          subst h5
          have HV := hid (show mean 8 h cur (zs.drop k) = (SP none (zs.drop (k + 1))).map (fun t => cur :: t) by rw [mean_8, D0.out, closedM, if_pos (show okAfter (_ :: _) = true from hs), SP_white _ _ hs])
          go_wp2_with (first | (at_builtin; refine wpList_append_own_at _ rfl _ _ 30 rfl w.heap.size 22 i2 (.slice none 0 0) 1 24 Try.underlying30 hi2 hy0 hy1 hy2 rfl (by decide) _ _ _ rfl (hr.alloc _) ⟨wr.heap.size, 0, none⟩ 1 1 [.slice p5 m5 c5] rfl rfl (cell_one_new _ _ _) ?c2 ?c3 ?c4 ?c5 ?_) | (go_at_call 29; refine (white_any _ _).mono ?_; rintro e w' ⟨rfl, hw⟩; have hw := hw.symm; subst hw))
          case c2 => first | rfl | (intro u hu; simp at hu; subst hu; rfl)
          case c3 => first | (simp [maxLen]; omega) | (unfold maxLen; omega)
          case c4 => first | omega | (simp; omega)
          case c5 => first | omega | (simp; omega)
          intro v' w1 hown' hgrow hnil hat
          have P := hid (R.out.close C.out HV.out (by omega) hr he.out hown' hgrow hnil)
          clear hown' hgrow hnil hat C hr he R
          go_wp2
          go_roundw
          case rel => exact ⟨k + 1, 0, h, _, _, by omega, by go_num, rfl, rfl, .inl rfl, P.out⟩
          case measure => simp [intOf, stN]; omega
        | false =>
          have P := hid (R.out.fail (by rw [mean_8, D0.out, closedM, if_neg (show ¬ okAfter (_ :: _) = true from (by show ¬ spc _ = true; rw [hs]; simp))]))
          clear R
          go_wp2_with (go_at_call 29; refine (white_any _ _).mono ?_; rintro e w' ⟨rfl, hw⟩; have hw := hw.symm; subst hw)
          go_ret2
          exact P.out
      · have SD := hid SD
        have s0 : (st == 0) = false := by rcases SD.out with e | e <;> simp [e]
        have s1 : (st == 1) = false := by rcases SD.out with e | e <;> simp [e]
        have s8 : (st == 8) = false := by rcases SD.out with e | e <;> simp [e]
        have sz : st ≠ 0 := by rcases SD.out with e | e <;> omega
        have s67 : (st == 6) = true ∨ ((st == 6) = false ∧ (st == 7) = true) := by rcases SD.out with e | e <;> simp [e]
        rcases s67 with s6 | ⟨s6, s7⟩
        all_goals
          obtain ⟨M, C⟩ := R.out.inn (by omega)
          have C := hid C
          have SK := hid (step_sq cur st (zs[k]?.getD 0) (zs.drop (k + 1)) SD.out)
          have ST := hid (feedS_state st (zs[k]?.getD 0) SD.out)
          have KK := hid (feedS_keep st (zs[k]?.getD 0))
          have bb := hid (back_s SD.out h)
          go_wp2_with fail
          refine (feedS_any w.heap.size u5 cur st _ _ SD.out C.out.own (by omega) (by omega)).mono ?_
          generalize feedS st (zs[k]?.getD 0) = q at *
          rintro e w2 ⟨v', rfl, ho, hg, hn⟩
          obtain ⟨q1, q3, q4, q5⟩ := q
          simp only at ho hg hn
          have S2 : Hid (SqSt q1) := ST
          have z1 : q1 ≠ 0 := by rcases S2.out with e | e <;> omega
          have HM := hid (mean_s SD.out h cur (zs.drop k))
          have hcl2 : cur.length + (back st h) ≤ k := hcl
          cases q5 with
          | true =>
            have P := hid (R.out.grow (by omega) ho hg hn (st' := 8) (h' := h) (k' := k + 1) (by omega) (by rw [HM.out, D0.out, (SK.out.closed rfl).1, mean_8]) (by omega) (by have e := (SK.out.closed rfl).2.2; simp only at e; rw [e]; simp [back, pend]; omega))
            have u1 := (SK.out.closed rfl).2.1
            simp only at u1
            subst u1
            clear R C SK ho hg hn
            go_wp2
            go_roundw
            case rel => exact ⟨k + 1, 8, h, _, _, by omega, by go_num, rfl, rfl, .inr (.inr (.inl rfl)), P.out⟩
            case measure => have := stN_le (.int .i64 st); simp [intOf, stN]; omega
          | false =>
            cases q4 with
            | true =>
              have P := hid (R.out.grow (by omega) ho hg hn (st' := q1) (h' := h) (k' := k + 1) z1 (by rw [HM.out, D0.out, (SK.out.used rfl rfl).1, mean_s S2.out]) (by omega) (by rw [back_s S2.out h]; have e := (SK.out.used rfl rfl).2; simp only at e; rw [bb.out] at hcl2; omega))
              clear R C SK ho hg hn
              go_wp2
              go_roundw
              case rel => exact ⟨k + 1, q1, h, _, _, by omega, by go_num, rfl, rfl, (.inr (.inr (.inr (.inl S2.out)))), P.out⟩
              case measure => have := stN_le (.int .i64 q1); simp [intOf]; omega
            | false =>
              have P := hid (R.out.grow (by omega) ho hg hn (st' := q1) (h' := h) (k' := k) z1 (by rw [HM.out, D0.out, (SK.out.kept rfl rfl).1, mean_s S2.out]) (by omega) (by rw [back_s S2.out h]; have e := (SK.out.kept rfl rfl).2; simp only at e; rw [bb.out] at hcl2; omega))
              have m1 : stN (.int .i64 st) = 1 := by unfold stN; rw [if_pos (by simp only [intOf]; have := (KK.out rfl).1; omega)]
              have m2 : stN (.int .i64 q1) = 0 := by rw [show q1 = 6 from (KK.out rfl).2]; rfl
              clear R C SK ho hg hn
              go_wp2
              go_roundw
              case rel => exact ⟨k, q1, h, _, _, by omega, rfl, rfl, rfl, (.inr (.inr (.inr (.inl S2.out)))), P.out⟩
              case measure => simp [intOf, m1, m2]
      · have SD := hid SD
        have s0 : (st == 0) = false := by rcases SD.out with e | e | e | ⟨e, _⟩ <;> simp [e]
        have s1 : (st == 1) = false := by rcases SD.out with e | e | e | ⟨e, _⟩ <;> simp [e]
        have s8 : (st == 8) = false := by rcases SD.out with e | e | e | ⟨e, _⟩ <;> simp [e]
        have s6 : (st == 6) = false := by rcases SD.out with e | e | e | ⟨e, _⟩ <;> simp [e]
        have s7 : (st == 7) = false := by rcases SD.out with e | e | e | ⟨e, _⟩ <;> simp [e]
        have sz : st ≠ 0 := by rcases SD.out with e | e | e | ⟨e, _⟩ <;> omega
        obtain ⟨M, C⟩ := R.out.inn (by omega)
        have C := hid C
        have SK := hid (step_dq cur st h (zs[k]?.getD 0) (zs.drop (k + 1)) SD.out hbk.1 hbk.2)
        have ST := hid (feed_state st h (zs[k]?.getD 0) SD.out hbk.1 hbk.2)
        have KK := hid (feed_keep st h (zs[k]?.getD 0) SD.out hbk.1 hbk.2)
        have bb := hid (back_d SD.out)
        go_wp2_with fail
        refine (feed_any w.heap.size u5 cur st h _ _ SD.out C.out.own (by omega) (by omega) hbk.1 hbk.2).mono ?_
        generalize feed st h (zs[k]?.getD 0) = q at *
        rintro e w2 ⟨v', rfl, ho, hg, hn⟩
        obtain ⟨q1, q2, q3, q4, q5⟩ := q
        simp only at ho hg hn
        have S2 : Hid (DqSt q1 q2) := ST
        have z1 : q1 ≠ 0 := by rcases S2.out with e | e | e | ⟨e, _⟩ <;> omega
        have HM := hid (mean_d SD.out cur (zs.drop k))
        have hcl2 : cur.length + (back st h) ≤ k := hcl
        cases q5 with
        | true =>
          have P := hid (R.out.grow (by omega) ho hg hn (st' := 8) (h' := q2) (k' := k + 1) (by omega) (by rw [HM.out, D0.out, (SK.out.closed rfl).1, mean_8]) (by omega) (by have e := (SK.out.closed rfl).2.2; simp only at e; rw [e]; simp [back, pend]; omega))
          have u1 := (SK.out.closed rfl).2.1
          simp only at u1
          subst u1
          clear R C SK ho hg hn
          go_wp2
          go_roundw
          case rel => exact ⟨k + 1, 8, q2, _, _, by omega, by go_num, rfl, rfl, .inr (.inr (.inl rfl)), P.out⟩
          case measure => have := stN_le (.int .i64 st); simp [intOf, stN]; omega
        | false =>
          cases q4 with
          | true =>
            have P := hid (R.out.grow (by omega) ho hg hn (st' := q1) (h' := q2) (k' := k + 1) z1 (by rw [HM.out, D0.out, (SK.out.used rfl rfl).1, mean_d S2.out]) (by omega) (by rw [back_d S2.out]; have e := (SK.out.used rfl rfl).2; simp only at e; rw [bb.out] at hcl2; omega))
            clear R C SK ho hg hn
            go_wp2
            go_roundw
            case rel => exact ⟨k + 1, q1, q2, _, _, by omega, by go_num, rfl, rfl, (.inr (.inr (.inr (.inr S2.out)))), P.out⟩
            case measure => have := stN_le (.int .i64 q1); simp [intOf]; omega
          | false =>
            have P := hid (R.out.grow (by omega) ho hg hn (st' := q1) (h' := q2) (k' := k) z1 (by rw [HM.out, D0.out, (SK.out.kept rfl rfl).1, mean_d S2.out]) (by omega) (by rw [back_d S2.out]; have e := (SK.out.kept rfl rfl).2; simp only at e; rw [bb.out] at hcl2; omega))
            have m1 : stN (.int .i64 st) = 1 := by unfold stN; rw [if_pos (by simp only [intOf]; have := (KK.out rfl rfl).1; omega)]
            have m2 : stN (.int .i64 q1) = 0 := by rw [show q1 = 2 from (KK.out rfl rfl).2]; rfl
            clear R C SK ho hg hn
            go_wp2
            go_roundw
            case rel => exact ⟨k, q1, q2, _, _, by omega, rfl, rfl, rfl, (.inr (.inr (.inr (.inr S2.out)))), P.out⟩
            case measure => simp [intOf, m1, m2]
    · have HE := hid (show zs.drop k = [] from List.drop_eq_nil_of_le (by rw [HL.out]; omega))
      rcases MS with rfl | rfl | rfl | SD | SD
      · have P := hid (R.out.fin (by rw [HL.out]; omega))
        clear R
        go_wp2
        go_ret2
        exact P.out
      · skip
        obtain ⟨M, C⟩ := R.out.inn (by omega)
        have C := hid C
        obtain ⟨vs, hr, he⟩ := C.out.args.ex
        have he := hid he
        obtain ⟨p5, m5, c5, h5⟩ := C.out.own.slice
        subst h5
        have HV := hid (show mean 1 h cur (zs.drop k) = some [cur] by rw [mean_1, HE.out, SP_last])
        go_wp2_with (first | (at_builtin; refine wpList_append_own_at _ rfl _ _ 30 rfl w.heap.size 22 i2 (.slice none 0 0) 1 24 Try.underlying30 hi2 hy0 hy1 hy2 rfl (by decide) _ _ _ rfl (hr.alloc _) ⟨wr.heap.size, 0, none⟩ 1 1 [.slice p5 m5 c5] rfl rfl (cell_one_new _ _ _) ?c2 ?c3 ?c4 ?c5 ?_))
        case c2 => first | rfl | (intro u hu; simp at hu; subst hu; rfl)
        case c3 => first | (simp [maxLen]; omega) | (unfold maxLen; omega)
        case c4 => first | omega | (simp; omega)
        case c5 => first | omega | (simp; omega)
        intro v' w1 hown' hgrow hnil hat
        have P := hid (R.out.last C.out HV.out hr he.out hown' hgrow hnil)
        clear hown' hgrow hnil hat C hr he R
        go_wp2
        go_ret2
        exact P.out
      · skip
        obtain ⟨M, C⟩ := R.out.inn (by omega)
        have C := hid C
        obtain ⟨vs, hr, he⟩ := C.out.args.ex
        have he := hid he
        obtain ⟨p5, m5, c5, h5⟩ := C.out.own.slice
        subst h5
        have HV := hid (show mean 8 h cur (zs.drop k) = some [cur] by rw [mean_8, HE.out, closedM, if_pos (show okAfter [] = true from rfl), SP_last])
        go_wp2_with (first | (at_builtin; refine wpList_append_own_at _ rfl _ _ 30 rfl w.heap.size 22 i2 (.slice none 0 0) 1 24 Try.underlying30 hi2 hy0 hy1 hy2 rfl (by decide) _ _ _ rfl (hr.alloc _) ⟨wr.heap.size, 0, none⟩ 1 1 [.slice p5 m5 c5] rfl rfl (cell_one_new _ _ _) ?c2 ?c3 ?c4 ?c5 ?_))
        case c2 => first | rfl | (intro u hu; simp at hu; subst hu; rfl)
        case c3 => first | (simp [maxLen]; omega) | (unfold maxLen; omega)
        case c4 => first | omega | (simp; omega)
        case c5 => first | omega | (simp; omega)
        intro v' w1 hown' hgrow hnil hat
        have P := hid (R.out.last C.out HV.out hr he.out hown' hgrow hnil)
        clear hown' hgrow hnil hat C hr he R
        go_wp2
        go_ret2
        exact P.out
      · have SD := hid SD
        have s0 : (st == 0) = false := by rcases SD.out with e | e <;> simp [e]
        have s1 : (st == 1) = false := by rcases SD.out with e | e <;> simp [e]
        have s8 : (st == 8) = false := by rcases SD.out with e | e <;> simp [e]
        have P := hid (R.out.fail (by rw [mean_s SD.out, HE.out, List.append_nil]; exact after_none (pendS_end st SD.out)))
        clear R
        go_wp2
        go_ret2
        exact P.out
      · have SD := hid SD
        have s0 : (st == 0) = false := by rcases SD.out with e | e | e | ⟨e, _⟩ <;> simp [e]
        have s1 : (st == 1) = false := by rcases SD.out with e | e | e | ⟨e, _⟩ <;> simp [e]
        have s8 : (st == 8) = false := by rcases SD.out with e | e | e | ⟨e, _⟩ <;> simp [e]
        have P := hid (R.out.fail (by rw [mean_d SD.out, HE.out, List.append_nil]; exact after_none (pend_end st h SD.out)))
        clear R
        go_wp2
        go_ret2
        exact P.out

end Go.Proofs.Qxb6603819a
