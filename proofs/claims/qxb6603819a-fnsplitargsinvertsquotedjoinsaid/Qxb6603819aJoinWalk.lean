/-
  'FnSplitArgsInvertsQuotedJoin' walked.
-/
import Derived.Test.Qxb6603819aJoin
namespace Go.Proofs.Qxb6603819a
open Go.RowKit

/-- an older slice of the call's own may be handed in beside a younger one -/
theorem hold_old {B B' w1 w2 u n c zs v zs'} (h : Own B w1 (.slice u n c) zs) (h8 : B8 zs) (hm : zs.length ≤ 9223372036854775807) (h' : Own B' w2 v zs') (hB : w1.heap.size ≤ B') (hs : w1.heap.size ≤ w2.heap.size) : ∀ x, u = some x → 0 < n → x.block < w2.heap.size ∧ some x.block ≠ v.ownBlock := by
  intro x hx h0
  have hlt := (h.arg h8 hm).old x hx h0
  refine ⟨by omega, fun e => ?_⟩
  have := (World.ownsRow.lt h' x.block e.symm).1
  omega

theorem app_own {B : Nat} {w wr w' : World} {v v' v0 : Value} {xs ys : List Int} {o : Obj} (hg0 : Gr w v0 wr v) (hown : w'.ownsRow B 5 1 v' (xs.length + ys.length) (xs.map (Value.int .u8) ++ ys.map (Value.int .u8))) (hg : (wr.alloc o).grownBy w' v.ownBlock)
    (hat : v'.ownBlock = v.ownBlock ∨ v'.ownBlock = some (wr.heap.size + 1)) : Own B w' v' (xs ++ ys) ∧ Gr w v0 w' v' := by
  refine ⟨own_snoc hown, (hg0.alloc o).step hg ?_⟩
  rcases hat with e | e
  · exact .inl e
  · exact .inr ⟨_, e, by simp⟩

set_option maxRecDepth 100000 in
set_option maxHeartbeats 8000000 in
theorem joinlaw_walk (a : Option Addr) (len cap : Nat) (zss : List (List Int)) (w : World) (h : ArgSS w a len zss) (h8 : ∀ z ∈ zss, B8 z) :
    Calls Try.prog 6 #[.slice a len cap] w fun e w' => e = .returned (.bool true) ∧ Below w.heap.size w w' := by
  have hq := fun w x n c => Lib.run_eql_slice_nil (P := Try.prog) w 30 22 x n c 0 0 Try.underlying30
  obtain ⟨i0, hi, hz0, hz1, hz2⟩ := info_parts Try.info5
  have hmx := h.max
  have HL : Hid (zss.length = len) := h.hlen
  have h8 := hid h8
  have h := hid h
  have b8i : Hid (∀ i, B8 (zss.getD i [])) := fun i => by
    by_cases hi : i < zss.length
    · rw [List.getD_eq_getElem?_getD, List.getElem?_eq_getElem hi]; exact h8.out _ (List.getElem_mem hi)
    · rw [List.getD_eq_getElem?_getD, List.getElem?_eq_none (by omega)]; exact B8.nil
  go_enter Try.func6, Try.ntmps6
  go_wp2_with fail
  refine (zz19 a len cap zss _ h.out).mono ?_
  rintro e w' ⟨p, rfl, hw, hp⟩
  have hw := hw.symm
  subst hw
  cases p with
  | false =>
    clear hp
    go_wp2
    go_ret
    exact ⟨rfl, Below.refl _ _⟩
  | true =>
    have HP := hid (hp rfl)
    clear hp
    by_cases h1 : len ≤ 4096
    · go_wp2
      go_loop [3, 4] (fun z i => ∃ k : Nat, ∃ t : Nat, k ≤ len ∧ i = .int .i64 k ∧ z = .int .i64 t ∧ t ≤ 131072 ∧ Hid (tot (zss.take k) = t)) (fun _ i => len - (intOf i).toNat)
      case atStart => exact ⟨0, 0, Nat.zero_le _, rfl, rfl, by omega, by simp [Hid, tot]⟩
      case round =>
        obtain ⟨k, t, hk, rfl, rfl, ht, HT⟩ := hrel
        by_cases hlt : k < len
        · obtain ⟨b, off, rfl, _, hc⟩ := h.out.cells (by omega)
          obtain ⟨u, n, c, hck, harg⟩ := hc k hlt
          have HN := hid harg.rd.hlen
          have hn : n ≤ 1048576 := by have := HP.out k; rw [HN.out] at this; exact this
          have T2 := hid (tot_snoc zss k (by rw [HL.out]; exact hlt))
          clear hc harg
          by_cases h3 : t + n ≤ 131072
          · go_wp2
            go_round
            case rel => exact ⟨k + 1, t + n, by omega, by go_num, by go_num, h3, by rw [Hid, T2.out, HT.out, HN.out]⟩
            case measure => simp [intOf]; omega
          · go_wp2
            go_ret
            exact ⟨rfl, Below.refl _ _⟩
        · have TT : tot zss ≤ 131072 := by
            have := HT.out
            rw [List.take_of_length_le (by rw [HL.out]; omega)] at this
            omega
          have TT := hid TT
          clear ht HT hk
          go_wp2_with fail
          refine (cloneArgs_walk a len cap zss _ h.out (by omega) (fun i => by
            by_cases hi : i < zss.length
            · have h1 := tot_snoc zss i hi
              have h2 := tot_take zss (i + 1)
              have h3 := TT.out
              omega
            · rw [List.getD_eq_getElem?_getD, List.getElem?_eq_none (by omega)]; simp)).mono ?_
          rintro e w1 ⟨u1, n1, c1, rfl, ca, bel1, rfl⟩
          have ca := hid ca
          have sz1 := bel1.size
          have bel1 := hid bel1
          have J0 : Hid (JRel zss w1 0 (.slice (some ⟨w1.heap.size, 0, none⟩) 2 2) (w1.alloc (.cells #[.int .u8 32, .int .u8 9] 5))) := ⟨by simpa [joinL] using own_two w1, Gr.refl _ _⟩
          go_wp2
          go_loopw [5, 6] (fun v i wr => ∃ k : Nat, k ≤ n1 ∧ i = .int .i64 k ∧ JRel zss w1 k v wr) (fun _ i _ => n1 - (intOf i).toNat)
          case atStart => exact ⟨0, Nat.zero_le _, rfl, J0.out⟩
          case round =>
            clear J0
            obtain ⟨k, hk, rfl, J⟩ := hrel
            have J := hid J
            have sz2 := J.out.bel.size
            have jl : ([32, 9] ++ joinL (zss.take k)).length ≤ 700000 := by
              have h1 := joinL_len (zss.take k)
              have h2 := tot_take zss k
              have h3 := TT.out
              have h4 : (zss.take k).length ≤ k := List.length_take_le _ _
              simp only [List.length_append, List.length_cons, List.length_nil]; omega
            by_cases hlt : k < n1
            · have hkz := hid (show k < zss.length by rw [HL.out]; exact hlt)
              generalize hX : [32, 9] ++ joinL (zss.take k) = X at *
              have HX := hid hX
              have oJ := hid (show Own w1.heap.size wr u5 X by rw [← hX]; exact J.out.own)
              clear hX
              go_wp2_with (at_builtin; refine wpList_append_own_at _ rfl _ _ 22 rfl w1.heap.size 5 i0 (.int .u8 0) 1 1 Try.underlying22 hi hz0 hz1 hz2 rfl (by decide) _ _ _ rfl (oJ.out.alloc _) ⟨wr.heap.size, 0, none⟩ 1 1 [.int .u8 34] rfl rfl (cell_one_new _ _ _) ?c2 ?c3 ?c4 ?c5 ?_)
              case c2 => first | rfl | (intro u hu; simp at hu; subst hu; rfl)
              case c3 => first | (simp [maxLen]; omega) | (unfold maxLen; omega)
              case c4 => first | (simp; omega) | omega
              case c5 => first | (simp; omega) | omega
              intro v2 w2 hown2 hg2 hn2 hat2
              have A2 := hid (app_own (ys := [34]) J.out.gr hown2 hg2 (by simpa using hat2))
              have b2 : Below w1.heap.size w1 w2 := ((Below.refl _ _).alloc (Nat.le_refl _) _).trans (A2.out.2.below (by simp) (fun q hq => by simp [Value.ownBlock] at hq; omega))
              have s2 := b2.size
              obtain ⟨vs, rw1, el1⟩ := ca.out
              obtain ⟨g, x, hu1, hx, hcx, hnm⟩ := row_cell (rowc_keep rw1 b2) k (by rw [HL.out]; exact hlt)
              clear hnm
              subst hu1
              have ox1 := el1 k x hx
              obtain ⟨ux, nx, cx, hxe⟩ := ox1.slice
              subst hxe
              have ox2 := Below.own b2 ox1 (Nat.le_refl _)
              have lx : (zss.getD k []).length ≤ 131072 := by
                have h1 := tot_snoc zss k hkz.out
                have h2 := tot_take zss (k + 1)
                have h3 := TT.out
                omega
              have capx := ox1.cap
              clear hown2 hg2 hn2 hat2 rw1 el1 hx
              go_wp2_with fail
              refine (quote_walk w1.heap.size v2 (X ++ [34]) ux nx cx (zss.getD k []) w2 A2.out.1 s2 (ox2.rd (b8i.out k)) (hold_old ox1 (b8i.out k) (by omega) A2.out.1 (Nat.le_refl _) s2) (by simp; omega)).mono ?_
              rintro e w3 ⟨v3, rfl, own3, gr3⟩
              have G3 := hid (A2.out.2.trans gr3)
              have s3 := gr3.grown.size
              have ql := qbody_len (zss.getD k [])
              obtain ⟨Y, hY⟩ : ∃ Y, Y = X ++ [34] ++ qbody (zss.getD k []) := ⟨_, rfl⟩
              have yl : Y.length ≤ 2000000 := by rw [hY]; simp only [List.length_append, List.length_cons, List.length_nil]; omega
              have oY := hid (show Own w1.heap.size w3 v3 Y by rw [hY]; exact own3)
              have HY := hid hY
              clear own3 gr3 hY ox2 ox1 hcx A2 b2
              go_wp2_with (at_builtin; refine wpList_append_own_at _ rfl _ _ 22 rfl w1.heap.size 5 i0 (.int .u8 0) 1 1 Try.underlying22 hi hz0 hz1 hz2 rfl (by decide) _ _ _ rfl (oY.out.alloc _) ⟨w3.heap.size, 0, none⟩ 1 1 [.int .u8 32] rfl rfl (cell_one_new _ _ _) ?c2 ?c3 ?c4 ?c5 ?_)
              case c2 => first | rfl | (intro u hu; simp at hu; subst hu; rfl)
              case c3 => first | (simp [maxLen]; omega) | (unfold maxLen; omega)
              case c4 => first | (simp; omega) | omega
              case c5 => first | (simp; omega) | omega
              intro v4 w4 hown4 hg4 hn4 hat4
              have A4 := hid (app_own (ys := [32]) G3.out hown4 hg4 (by simpa using hat4))
              have J4 : Hid (JRel zss w1 (k + 1) v4 w4) := by
                refine ⟨?_, A4.out.2⟩
                have e : [32, 9] ++ joinL (zss.take (k + 1)) = Y ++ [32] := by
                  rw [joinL_snoc zss k hkz.out, HY.out, ← HX.out]; simp
                rw [e]; exact A4.out.1
              clear hown4 hg4 hn4 hat4 A4
              go_wp2
              go_roundw
              case rel => exact ⟨k + 1, by omega, by go_num, J4.out⟩
              case measure => simp [intOf]; omega
            · have hkn : Hid (zss.take k = zss) := List.take_of_length_le (by rw [HL.out]; omega)
              have oL : Hid (Own w1.heap.size wr u5 ([32, 9] ++ joinL zss)) := by
                have := J.out.own
                rw [hkn.out] at this
                exact this
              have bL := hid J.out.bel
              have HSP := hid (SP_line zss h8.out)
              have L8 := hid (b8_app (x := [32, 9]) (fun z hz => by simp at hz; omega) (joinL_b8 zss h8.out))
              have jl2 : ([32, 9] ++ joinL zss).length ≤ 700000 := by rw [hkn.out] at jl; exact jl
              have jl3 : 2 ≤ ([32, 9] ++ joinL zss).length := by simp
              generalize [32, 9] ++ joinL zss = LN at *
              rcases oL.out.shape with ⟨_, e⟩ | ⟨g5, cap5, hu5, hg5, hg5', hcp5⟩
              · rw [e] at jl3; simp at jl3
              subst hu5
              have rdL := oL.out.rd L8.out
              clear J hkn hk jl
              go_wp2_with fail
              refine (split_walk g5 0 LN.length cap5 LN wr rdL hg5' hcp5 (by omega) (by omega)).mono ?_
              intro e w2 hsp
              rw [HSP.out] at hsp
              obtain ⟨v7, rfl, args7, nil7, bel7⟩ := hsp
              obtain ⟨vs7, rw7, el7⟩ := args7.ex
              have CA2 := hid ((ca.out.keep bL.out).keep bel7)
              have el7 := hid el7
              have belA := hid (((bel1.out.trans (bL.out.mono bel1.out.size)).trans (bel7.mono (Nat.le_trans bel1.out.size bL.out.size))))
              have sh : ∃ u7 c7, v7 = .slice u7 n1 c7 ∧ (u7.isNone = true ↔ n1 = 0) := by
                rcases rw7.2 with ⟨e1, e2⟩ | ⟨g, cp, cur, e1, _⟩
                · exact ⟨none, 0, by rw [e1, ← HL.out, e2], by simp [← HL.out, e2]⟩
                · refine ⟨_, cp, by rw [e1, HL.out], ?_⟩
                  constructor
                  · intro h; simp at h
                  · intro h
                    have : zss = [] := List.eq_nil_of_length_eq_zero (by rw [HL.out]; exact h)
                    have := nil7.2 this
                    rw [e1] at this; simp at this
              obtain ⟨u7, c7, rfl, hnn⟩ := sh
              have hkk : ((n1 : Int) != (n1 : Int)) = false := by simp
              have hb0 : u7.isNone = ((n1 : Int) == 0) := by
                rw [Bool.eq_iff_iff, hnn]; simp
              have rw7 := hid rw7
              clear args7 nil7 bel7 hnn oL bL rdL HSP L8 h
              cases hz : ((n1 : Int) == 0) with
              | true =>
                have hn0 : n1 = 0 := by simpa using hz
                subst hn0
                rw [hz] at hb0
                go_wp2
                go_loopw [9] (fun i wx => ∃ q : Nat, q ≤ 0 ∧ i = .int .i64 q ∧ wx = w2) (fun i _ => 0 - (intOf i).toNat)
                case atStart => exact ⟨0, by omega, rfl, rfl⟩
                case round =>
                  obtain ⟨q, hq0, rfl, rfl⟩ := hrel
                  obtain rfl : q = 0 := by omega
                  go_wp2
                  go_ret
                  exact ⟨rfl, belA.out⟩
              | false =>
                rw [hz] at hb0
                go_wp2
                go_loopw [9] (fun i wx => ∃ q : Nat, q ≤ n1 ∧ i = .int .i64 q ∧ Sm w2 wx) (fun i _ => n1 - (intOf i).toNat)
                case atStart => exact ⟨0, by omega, rfl, Sm.refl _⟩
                case round =>
                  obtain ⟨q, hq0, rfl, hsm⟩ := hrel
                  by_cases hql : q < n1
                  · have hqz := hid (show q < zss.length by rw [HL.out]; exact hql)
                    obtain ⟨g7, x7, hu7, hx7, hc7, hm7⟩ := row_cell rw7.out q hqz.out
                    clear hm7
                    subst hu7
                    obtain ⟨vs1, rw1, el1⟩ := CA2.out
                    obtain ⟨g1, x1, hu1, hx1, hc1, hm1⟩ := row_cell rw1 q hqz.out
                    clear hm1
                    subst hu1
                    have o7 := (el7.out q x7 hx7).1
                    have o1 := el1 q x1 hx1
                    obtain ⟨a7, n7, d7, e7⟩ := o7.slice
                    obtain ⟨a1, m1, d1, e1⟩ := o1.slice
                    subst e7
                    subst e1
                    have lx : (zss.getD q []).length ≤ 131072 := by
                      have h1 := tot_snoc zss q hqz.out
                      have h2 := tot_take zss (q + 1)
                      have h3 := TT.out
                      omega
                    have r7 := hid (hsm.rd (o7.rd (b8i.out q)))
                    have r1 := hid (hsm.rd (o1.rd (b8i.out q)))
                    have l7 : n7 ≤ 131072 := by have := o7.cap; omega
                    have l1 : m1 ≤ 131072 := by have := o1.cap; omega
                    have k7 : wr.cell? ⟨g7, q, none⟩ = some (.slice a7 n7 d7) := by rw [hsm.cell]; exact hc7
                    have k1 : wr.cell? ⟨g1, q, none⟩ = some (.slice a1 m1 d1) := by rw [hsm.cell]; exact hc1
                    have hqi : (q : Int) < n1 := by omega
                    clear hx7 hx1 hc7 hc1 o7 o1 rw1 el1 lx
                    go_wp2
                    go_quiet ((go_at_call 13; exact Calls.quiet_of (same_quiet _ _ _ (zss.getD q []) _ _ _ (zss.getD q []) _ ((Sm.drewN _ _).rd r7.out) ((Sm.drewN _ _).rd r1.out) (by omega) (by omega) rfl)))
                    go_wp2
                    go_roundw
                    case rel => exact ⟨q + 1, by omega, by go_num, ⟨hsm.heap, hsm.os, hsm.tape, hsm.output⟩⟩
                    case measure => simp [intOf]; omega
                  · go_wp2
                    go_ret
                    exact ⟨rfl, belA.out.trans (hsm.below _)⟩
    · go_wp2
      go_ret
      exact ⟨rfl, Below.refl _ _⟩

end Go.Proofs.Qxb6603819a
