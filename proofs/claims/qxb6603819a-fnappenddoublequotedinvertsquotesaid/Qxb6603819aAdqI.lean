/-
  'FnAppendDoubleQuotedInvertsQuote' walked.
-/
import Derived.Test.Qxb6603819aQuoteLaw
import Derived.Test.Qxb6603819aAdqM
import Derived.Laws.AppendOwnNone
namespace Go.Proofs.Qxb6603819a
open Go.RowKit

set_option maxHeartbeats 400000 in
theorem zz25 (a : Option Addr) (n c : Nat) (a' : Option Addr) (n' c' : Nat) (a'' : Option Addr) (n'' c'' : Nat) (w : World) (hm : n ≤ 9223372036854775807) (hm' : n' ≤ 9223372036854775807) (hm'' : n'' ≤ 9223372036854775807) :
    Calls Try.prog 25 #[.slice a n c, .slice a' n' c', .slice a'' n'' c''] w fun e w' => e = .returned (.bool (decide (n + n' + n'' ≤ 1048576))) ∧ w' = w := by
  have fin : ∀ p : Bool, Hid (decide (n + n' + n'' ≤ 1048576) = p) → (Calls Try.prog 25 #[.slice a n c, .slice a' n' c', .slice a'' n'' c''] w fun e w' => e = .returned (.bool p) ∧ w' = w) → (Calls Try.prog 25 #[.slice a n c, .slice a' n' c', .slice a'' n'' c''] w fun e w' => e = .returned (.bool (decide (n + n' + n'' ≤ 1048576))) ∧ w' = w) := fun p hp h => by rw [hp.out]; exact h
  by_cases h1 : n ≤ 1048576
  · by_cases h2 : n' ≤ 1048576
    · by_cases h3 : n + n' ≤ 1048576
      · by_cases h4 : n'' ≤ 1048576
        · by_cases h5 : n + n' + n'' ≤ 1048576
          · refine fin true (decide_eq_true h5) ?_
            clear fin
            go_enter Try.func25, Try.ntmps25
            go_wp2
            go_ret
            exact ⟨rfl, rfl⟩
          · refine fin false (decide_eq_false h5) ?_
            clear fin
            go_enter Try.func25, Try.ntmps25
            go_wp2
            go_ret
            exact ⟨rfl, rfl⟩
        · refine fin false (decide_eq_false (by omega)) ?_
          clear fin
          go_enter Try.func25, Try.ntmps25
          go_wp2
          go_ret
          exact ⟨rfl, rfl⟩
      · refine fin false (decide_eq_false (by omega)) ?_
        clear fin
        go_enter Try.func25, Try.ntmps25
        go_wp2
        go_ret
        exact ⟨rfl, rfl⟩
    · refine fin false (decide_eq_false (by omega)) ?_
      clear fin
      go_enter Try.func25, Try.ntmps25
      go_wp2
      go_ret
      exact ⟨rfl, rfl⟩
  · refine fin false (decide_eq_false (by omega)) ?_
    clear fin
    go_enter Try.func25, Try.ntmps25
    go_wp2
    go_ret
    exact ⟨rfl, rfl⟩

theorem own_apart {B w v zs B' w' v' zs'} (h : Own B w v zs) (h' : Own B' w' v' zs') (hB : w.heap.size ≤ B') : v.ownBlock = none ∨ v.ownBlock ≠ v'.ownBlock := by
  cases e : v.ownBlock with
  | none => exact .inl rfl
  | some k =>
    refine .inr fun e2 => ?_
    have := (World.ownsRow.lt h k e).2
    have := (World.ownsRow.lt h' k e2.symm).1
    omega
theorem own_nil (B : Nat) (w : World) : Own B w (.slice none 0 0) [] := World.ownsRow_nil _ _ _ _
/-- a slice of the call's own may be handed in beside another whose blocks are older -/
theorem hold_of {B w u n c zs v' zs' B' w'} (h : Own B w (.slice u n c) zs) (h8 : B8 zs) (hm : zs.length ≤ 9223372036854775807) (h' : Own B' w' v' zs') (hB : w'.heap.size ≤ B) : ∀ x, u = some x → 0 < n → x.block < w.heap.size ∧ some x.block ≠ v'.ownBlock := by
  intro x hx h0
  have hlt := (h.arg h8 hm).old x hx h0
  refine ⟨hlt, fun e => ?_⟩
  have h1 := (World.ownsRow.lt h' x.block e.symm).2
  rcases h.shape with ⟨h2, rfl⟩ | ⟨g, cap, h2, h3, _⟩
  · have := h.cap.1; simp at this; omega
  · subst hx; simp at h2; rw [h2.1] at h1; simp at h1; omega

/-- What lay below B when h was told, and still lies at r, stays where nothing below B turns. -/
theorem low_own {B B0 B1 : Nat} {w0 w w' : World} {v : Value} {zs : List Int} (hb : Below B w w') (h : Own B0 w0 v zs) (r : Own B1 w v zs) (hB : w0.heap.size ≤ B) : Own B1 w' v zs := by
  refine ⟨r.1, ?_⟩
  rcases r.2 with h1 | ⟨g, cap, cur, h1, h2, h3, r4⟩
  · exact .inl h1
  · have := (World.ownsRow.lt h g (by rw [h1]; rfl)).2
    exact .inr ⟨g, cap, cur, h1, h2, by rw [hb.block g (by omega)]; exact h3, r4⟩

set_option maxRecDepth 100000 in
set_option maxHeartbeats 4000000 in
theorem adqi_walk (a : Option Addr) (len cap : Nat) (xs : List Int) (a' : Option Addr) (len' cap' : Nat) (p : List Int) (a'' : Option Addr) (len'' cap'' : Nat) (ts : List Int) (w : World) (h : Arg w a len xs) (h' : Arg w a' len' p) (h'' : Arg w a'' len'' ts) :
    Calls Try.prog 8 #[.slice a len cap, .slice a' len' cap', .slice a'' len'' cap''] w fun e w' => e = .returned (.bool true) ∧ Below w.heap.size w w' := by
  have hmx := h.max
  have hmx' := h'.max
  have hmx'' := h''.max
  obtain ⟨i0, hi, hz0, hz1, hz2⟩ := info_parts Try.info5
  by_cases h1 : len + len' + len'' ≤ 1048576
  · have HZ : Hid (decide (len + len' + len'' ≤ 1048576) = true) := decide_eq_true h1
    by_cases h2 : len ≤ 65536
    · by_cases h3 : len' ≤ 65536
      · by_cases h4 : len'' ≤ 65536
        · go_enter Try.func8, Try.ntmps8
          go_wp2_with fail
          refine (zz25 _ _ _ _ _ _ _ _ _ _ hmx hmx' hmx'').mono ?_
          rw [HZ.out]
          rintro e w1 ⟨rfl, hw⟩
          have hw := hw.symm
          subst hw
          go_wp2_with fail
          refine (clone_arg a len cap xs _ h (by omega)).mono ?_
          rintro e w1 ⟨u1, n1, c1, rfl, own1, bel1, nil1⟩
          go_wp2_with fail
          refine (clone_arg a' len' cap' p _ (h'.mono bel1 (Nat.le_refl _)) (by omega)).mono ?_
          rintro e w2 ⟨u2, n2, c2, rfl, own2, bel2, nil2⟩
          have bel02 := bel1.trans (bel2.mono bel1.size)
          go_wp2_with fail
          refine (clone_arg a'' len'' cap'' ts _ (h''.mono bel02 (Nat.le_refl _)) (by omega)).mono ?_
          rintro e w3 ⟨u3, n3, c3, rfl, own3, bel3, nil3⟩
          have bel03 := bel02.trans (bel3.mono bel02.size)
          have S1 : Hid (xs.length = len) := h.rd.hlen
          have S2 : Hid (p.length = len') := h'.rd.hlen
          have S3 : Hid (ts.length = len'') := h''.rd.hlen
          have X8 : Hid (B8 xs) := h.rd.b8
          have P8 : Hid (B8 p) := h'.rd.b8
          have T8 : Hid (B8 ts) := h''.rd.b8
          have o1 := own_mono (Below.own bel3 (Below.own bel2 own1 (Nat.le_refl _)) (Nat.le_refl _)) (Nat.zero_le _)
          have o2 := own_mono (Below.own bel3 own2 (Nat.le_refl _)) (Nat.zero_le _)
          have o3 := own_mono own3 (Nat.zero_le _)
          have cap1 := own1.cap
          have cap2 := own2.cap
          have cap3 := own3.cap
          have l1 : n1 ≤ 65536 := by have := S1.out; omega
          have l2 : n2 ≤ 65536 := by have := S2.out; omega
          have l3 : n3 ≤ 65536 := by have := S3.out; omega
          clear h h' h'' nil1 nil2 nil3 own1 own2 own3 bel1 bel2 bel3 bel02
          go_wp2_with fail
          refine (clone_arg u1 n1 c1 xs _ (o1.arg X8.out (by omega)) (by omega)).mono ?_
          rintro e w4 ⟨u4, n4, c4, rfl, own4, bel4, nil4⟩
          have o1q := o1
          have o2q := o2
          have o1 := Below.own bel4 o1 (Nat.le_refl _)
          have o2 := Below.own bel4 o2 (Nat.le_refl _)
          have o3 := Below.own bel4 o3 (Nat.le_refl _)
          have s4 := bel4.size
          have bel04 := bel03.trans (bel4.mono bel03.size)
          have cap4 := own4.cap
          have s03 := bel03.size
          clear nil4 bel4 bel03
          go_wp2_with fail
          refine (quote_walk w4.heap.size (.slice none 0 0) [] u2 n2 c2 p _ (own_nil _ _) (Nat.le_refl _) (o2.rd P8.out) (fun x hx h0 => ⟨(o2.arg P8.out (by omega)).old x hx h0, by simp [Value.ownBlock]⟩) (by simp; omega)).mono ?_
          rintro e w5 ⟨v5, rfl, own5, gr5⟩
          simp only [List.nil_append] at own5
          obtain ⟨u5, n5, c5, rfl⟩ := own5.slice
          have bel5 : Below w4.heap.size w4 w5 := gr5.below (Nat.le_refl _) (by simp [Value.ownBlock])
          have cap5 := own5.cap
          have ql := qbody_len p
          have q8 := hidQ (qbody_b8 p P8.out)
          have HA := hidQ (adq_qbody p P8.out ts)
          have o1' := Below.own bel5 o1 (Nat.le_refl _)
          have o2' := Below.own bel5 o2 (Nat.le_refl _)
          have o3 := Below.own bel5 o3 (Nat.le_refl _)
          have o4' := Below.own bel5 own4 (Nat.le_refl _)
          have s5 := bel5.size
          have bel05 := bel04.trans (bel5.mono bel04.size)
          clear gr5 bel5 bel04
          rcases o3.shape with ⟨e3, rfl⟩ | ⟨g3, cp3, e3, _, hg3, _⟩
          · simp only [Value.slice.injEq] at e3
            obtain ⟨rfl, rfl, rfl⟩ := e3
            go_wp2_with (at_builtin; refine wpList_append_own_none rfl _ _ 22 rfl w4.heap.size 5 i0 1 Try.underlying22 hi _ _ _ rfl own5 rfl ?_)
            have own6 : Own w4.heap.size w5 (.slice u5 n5 c5) (qbody p ++ []) := by simpa using own5
            have bel6 := Below.refl w5.heap.size w5
            have cap6 := own6.cap
            have o1 := Below.own bel6 o1' (Nat.le_refl _)
            have o2 := Below.own bel6 o2' (Nat.le_refl _)
            have o4 := Below.own bel6 o4' (Nat.le_refl _)
            have s6 := bel6.size
            have t8 := hidQ (b8_app q8.out T8.out)
            have tl : (qbody p ++ []).length ≤ 400000 := by simp; omega
            go_wp2_with fail
            refine (zadq_walk w3.heap.size (.slice u4 n4 c4) xs u5 n5 c5 (qbody p ++ []) _ o4 (by omega) (own6.rd t8.out) (hold_of own6 t8.out (by omega) own4 (Nat.le_refl _)) (by omega)).mono ?_
            rw [HA.out]
            rintro e w7 ⟨v7, rfl, ho, hg, hnn⟩
            clear hnn
            rw [cap5.1]
            have o1 := hg.own o1 (own_apart o1q own4 (Nat.le_refl _))
            have o2 := hg.own o2 (own_apart o2q own4 (Nat.le_refl _))
            have belW := (bel05.trans (bel6.mono (by omega))).trans (hg.below (B := w.heap.size) (by omega) (fun k hk => by have := (World.ownsRow.lt own4 k hk).1; omega))
            clear hg own6 o4 bel6 cap6 own4 o4' own5
            have hkk : ((n5 : Int) != (n5 : Int)) = false := by simp
            have r1 := o1.rd X8.out
            have r2 := o2.rd P8.out
            rcases ho.shape with ⟨rfl, hxd⟩ | ⟨g, cp, rfl, hg1, hg2, hcp⟩
            · obtain ⟨q3, q2⟩ := List.append_eq_nil_iff.1 hxd
              subst q2
              subst q3
              obtain rfl : n1 = 0 := by simpa using cap1.1.symm
              obtain rfl : n2 = 0 := by simpa using cap2.1.symm
              clear ho hxd cap1 cap2 cap3 cap4 cap5 ql tl
              go_wp2_with fail
              refine (same_any _ _ _ [] _ _ _ [] _ (rd_nil _ _) (rd_nil _ _) (by omega) (by omega)).mono ?_
              rw [beq_self_eq_true]
              rintro e w8 ⟨rfl, sm8⟩
              go_wp2_with fail
              refine (same_any _ _ _ [] _ _ _ [] _ (rd_nil _ _) (rd_nil _ _) (by omega) (by omega)).mono ?_
              rw [beq_self_eq_true]
              rintro e w9 ⟨rfl, sm9⟩
              go_wp2
              go_ret
              exact ⟨rfl, belW.trans ((sm8.trans sm9).below _)⟩
            · have rg := ho.rd (b8_app X8.out P8.out)
              have ra := rd_take rg
              have N1 : Hid (xs.length = n1) := cap1.1
              have N2 : Hid (p.length = n2) := cap2.1
              rw [N1.out] at ra
              have hL : (xs ++ p).length = n1 + n2 := by rw [List.length_append, N1.out, N2.out]
              rw [hL] at hcp rg
              rw [hL]
              have hlk : (((n1 + n2 : Nat) : Int) != (n1 : Int) + (n2 : Int)) = false := by simp
              clear ho cap1 cap2 hL
              go_wp2_with fail
              refine (same_any _ n1 _ xs u1 n1 c1 xs _ ra r1 (by omega) (by omega)).mono ?_
              rw [beq_self_eq_true]
              rintro e w8 ⟨rfl, sm8⟩
              by_cases hp2 : 0 < n2
              · have rd5 := sm8.rd (rd_drop rg)
                rw [N1.out, N2.out] at rd5
                simp only [Nat.zero_add] at rd5
                go_wp2_with fail
                refine (same_any _ n2 _ p u2 n2 c2 p _ rd5 (sm8.rd r2) (by omega) (by omega)).mono ?_
                rw [beq_self_eq_true]
                rintro e w9 ⟨rfl, sm9⟩
                go_wp2
                go_ret
                exact ⟨rfl, belW.trans ((sm8.trans sm9).below _)⟩
              · obtain rfl : n2 = 0 := by omega
                obtain rfl : p = [] := List.eq_nil_of_length_eq_zero N2.out
                by_cases hcn : cp = n1
                all_goals
                  go_wp2_with fail
                  refine (same_any _ _ _ [] _ _ _ [] _ (rd_nil _ _) (rd_nil _ _) (by omega) (by omega)).mono ?_
                  rw [beq_self_eq_true]
                  rintro e w9 ⟨rfl, sm9⟩
                  go_wp2
                  go_ret
                  exact ⟨rfl, belW.trans ((sm8.trans sm9).below _)⟩
          · simp only [Value.slice.injEq] at e3
            obtain ⟨rfl, rfl, rfl⟩ := e3
            go_wp2_with (at_builtin; refine wpList_append_own_at _ rfl _ _ 22 rfl w4.heap.size 5 i0 (.int .u8 0) 1 1 Try.underlying22 hi hz0 hz1 hz2 rfl (by decide) _ _ _ rfl own5 ⟨g3, 0, none⟩ ts.length c3 (ts.map (Value.int .u8)) rfl (by simp) ?c1 (ints_oneCell _ _) ?c3 ?c4 ?c5 ?_)
            case c1 => exact World.ownsRow.cells o3 rfl
            case c3 => first | (simp [maxLen]; omega) | (unfold maxLen; omega)
            case c4 => first | (simp; omega) | omega
            case c5 => exact s5
            intro v6 w6 own6' gr6 _ at6
            have own6 : Own w4.heap.size w6 v6 (qbody p ++ ts) := own_snoc (by rw [cap5.1]; exact own6')
            have bel6 : Below w4.heap.size w5 w6 := (Below.refl _ _).grown gr6 s5 (fun k hk => (World.ownsRow.lt own5 k hk).1)
            obtain ⟨u6, n6, c6, rfl⟩ := own6.slice
            clear own6' gr6 at6
            have cap6 := own6.cap
            have o1 := low_own bel6 o1q o1' s4
            have o2 := low_own bel6 o2q o2' s4
            have o4 := low_own bel6 own4 o4' (Nat.le_refl _)
            have s6 := bel6.size
            have t8 := hidQ (b8_app q8.out T8.out)
            have tl : (qbody p ++ ts).length ≤ 400000 := by simp; omega
            go_wp2_with fail
            refine (zadq_walk w3.heap.size (.slice u4 n4 c4) xs u6 n6 c6 (qbody p ++ ts) _ o4 (by omega) (own6.rd t8.out) (hold_of own6 t8.out (by omega) own4 (Nat.le_refl _)) (by omega)).mono ?_
            rw [HA.out]
            rintro e w7 ⟨v7, rfl, ho, hg, hnn⟩
            clear hnn
            rw [cap5.1]
            have o1 := hg.own o1 (own_apart o1q own4 (Nat.le_refl _))
            have o2 := hg.own o2 (own_apart o2q own4 (Nat.le_refl _))
            have belW := (bel05.trans (bel6.mono (by omega))).trans (hg.below (B := w.heap.size) (by omega) (fun k hk => by have := (World.ownsRow.lt own4 k hk).1; omega))
            clear hg own6 o4 bel6 cap6 own4 o4' own5
            have hkk : ((n5 : Int) != (n5 : Int)) = false := by simp
            have r1 := o1.rd X8.out
            have r2 := o2.rd P8.out
            rcases ho.shape with ⟨rfl, hxd⟩ | ⟨g, cp, rfl, hg1, hg2, hcp⟩
            · obtain ⟨q3, q2⟩ := List.append_eq_nil_iff.1 hxd
              subst q2
              subst q3
              obtain rfl : n1 = 0 := by simpa using cap1.1.symm
              obtain rfl : n2 = 0 := by simpa using cap2.1.symm
              clear ho hxd cap1 cap2 cap3 cap4 cap5 ql tl
              go_wp2_with fail
              refine (same_any _ _ _ [] _ _ _ [] _ (rd_nil _ _) (rd_nil _ _) (by omega) (by omega)).mono ?_
              rw [beq_self_eq_true]
              rintro e w8 ⟨rfl, sm8⟩
              go_wp2_with fail
              refine (same_any _ _ _ [] _ _ _ [] _ (rd_nil _ _) (rd_nil _ _) (by omega) (by omega)).mono ?_
              rw [beq_self_eq_true]
              rintro e w9 ⟨rfl, sm9⟩
              go_wp2
              go_ret
              exact ⟨rfl, belW.trans ((sm8.trans sm9).below _)⟩
            · have rg := ho.rd (b8_app X8.out P8.out)
              have ra := rd_take rg
              have N1 : Hid (xs.length = n1) := cap1.1
              have N2 : Hid (p.length = n2) := cap2.1
              rw [N1.out] at ra
              have hL : (xs ++ p).length = n1 + n2 := by rw [List.length_append, N1.out, N2.out]
              rw [hL] at hcp rg
              rw [hL]
              have hlk : (((n1 + n2 : Nat) : Int) != (n1 : Int) + (n2 : Int)) = false := by simp
              clear ho cap1 cap2 hL
              go_wp2_with fail
              refine (same_any _ n1 _ xs u1 n1 c1 xs _ ra r1 (by omega) (by omega)).mono ?_
              rw [beq_self_eq_true]
              rintro e w8 ⟨rfl, sm8⟩
              by_cases hp2 : 0 < n2
              · have rd5 := sm8.rd (rd_drop rg)
                rw [N1.out, N2.out] at rd5
                simp only [Nat.zero_add] at rd5
                go_wp2_with fail
                refine (same_any _ n2 _ p u2 n2 c2 p _ rd5 (sm8.rd r2) (by omega) (by omega)).mono ?_
                rw [beq_self_eq_true]
                rintro e w9 ⟨rfl, sm9⟩
                go_wp2
                go_ret
                exact ⟨rfl, belW.trans ((sm8.trans sm9).below _)⟩
              · obtain rfl : n2 = 0 := by omega
                obtain rfl : p = [] := List.eq_nil_of_length_eq_zero N2.out
                by_cases hcn : cp = n1
                all_goals
                  go_wp2_with fail
                  refine (same_any _ _ _ [] _ _ _ [] _ (rd_nil _ _) (rd_nil _ _) (by omega) (by omega)).mono ?_
                  rw [beq_self_eq_true]
                  rintro e w9 ⟨rfl, sm9⟩
                  go_wp2
                  go_ret
                  exact ⟨rfl, belW.trans ((sm8.trans sm9).below _)⟩
        · go_enter Try.func8, Try.ntmps8
          go_wp2_with fail
          refine (zz25 _ _ _ _ _ _ _ _ _ _ hmx hmx' hmx'').mono ?_
          rw [HZ.out]
          rintro e w1 ⟨rfl, rfl⟩
          go_wp2
          go_ret
          exact ⟨rfl, Below.refl _ _⟩
      · go_enter Try.func8, Try.ntmps8
        go_wp2_with fail
        refine (zz25 _ _ _ _ _ _ _ _ _ _ hmx hmx' hmx'').mono ?_
        rw [HZ.out]
        rintro e w1 ⟨rfl, rfl⟩
        go_wp2
        go_ret
        exact ⟨rfl, Below.refl _ _⟩
    · go_enter Try.func8, Try.ntmps8
      go_wp2_with fail
      refine (zz25 _ _ _ _ _ _ _ _ _ _ hmx hmx' hmx'').mono ?_
      rw [HZ.out]
      rintro e w1 ⟨rfl, rfl⟩
      go_wp2
      go_ret
      exact ⟨rfl, Below.refl _ _⟩
  · have HZ : Hid (decide (len + len' + len'' ≤ 1048576) = false) := decide_eq_false h1
    go_enter Try.func8, Try.ntmps8
    go_wp2_with fail
    refine (zz25 _ _ _ _ _ _ _ _ _ _ hmx hmx' hmx'').mono ?_
    rw [HZ.out]
    rintro e w1 ⟨rfl, rfl⟩
    go_wp2
    go_ret
    exact ⟨rfl, Below.refl _ _⟩

end Go.Proofs.Qxb6603819a
