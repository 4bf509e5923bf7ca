/-
  'FnAppendDoubleQuotedMatchesStateMachine' walked.
-/
import Derived.Test.Qxb6603819aMdq
import Derived.Test.Qxb6603819aArg
namespace Go.Proofs.Qxb6603819a
open Go.RowKit

set_option maxHeartbeats 400000 in
theorem zz22 (a : Option Addr) (len cap : Nat) (a' : Option Addr) (len' cap' : Nat) (w : World) (hm : len ≤ 9223372036854775807) (hm' : len' ≤ 9223372036854775807) :
    Calls Try.prog 22 #[.slice a len cap, .slice a' len' cap'] w fun e w' => e = .returned (.bool (decide (len + len' ≤ 1048576))) ∧ w' = w := by
  by_cases h : len ≤ 1048576
  · by_cases h' : len' ≤ 1048576
    · by_cases h2 : len + len' ≤ 1048576
      · rw [decide_eq_true h2]
        go_enter Try.func22, Try.ntmps22
        go_wp2
        go_ret
        exact ⟨rfl, rfl⟩
      · rw [decide_eq_false h2]
        go_enter Try.func22, Try.ntmps22
        go_wp2
        go_ret
        exact ⟨rfl, rfl⟩
    · rw [decide_eq_false (by omega)]
      go_enter Try.func22, Try.ntmps22
      go_wp2
      go_ret
      exact ⟨rfl, rfl⟩
  · rw [decide_eq_false (by omega)]
    go_enter Try.func22, Try.ntmps22
    go_wp2
    go_ret
    exact ⟨rfl, rfl⟩

theorem qpost_none {B : Nat} {v0 : Value} {xs : List Int} {w : World} {o : Option (List Int × Nat)} {e : Ending} {w' : World} (ho : o = none)
    (h : e = .returned (.tuple #[.slice none 0 0, .int .i64 0, .bool false]) ∧ ∃ v', Gr w v0 w' v') : QPost B v0 xs w o e w' := by subst ho; exact h
theorem qpost_some {B : Nat} {v0 : Value} {xs : List Int} {w : World} {o : Option (List Int × Nat)} {e : Ending} {w' : World} {d : List Int} {k : Nat} (ho : o = some (d, k))
    (h : ∃ v', e = .returned (.tuple #[v', .int .i64 k, .bool true]) ∧ Own B w' v' (xs ++ d) ∧ Gr w v0 w' v' ∧ (v' = .slice none 0 0 ↔ v0 = .slice none 0 0 ∧ d = [])) : QPost B v0 xs w o e w' := by subst ho; exact h

set_option maxHeartbeats 400000 in
/-- The wrapper hands on. -/
theorem zadq_walk (B : Nat) (v0 : Value) (xs : List Int) (a : Option Addr) (n c : Nat) (zs : List Int) (w : World) (hown : Own B w v0 xs) (hB : B ≤ w.heap.size) (hrd : Rd w a n zs)
    (hold : ∀ x, a = some x → 0 < n → x.block < w.heap.size ∧ some x.block ≠ v0.ownBlock) (hm : xs.length + n ≤ 100000000) :
    Calls Try.prog 23 #[v0, .slice a n c] w (QPost B v0 xs w (adq zs)) := by
  go_enter Try.func23, Try.ntmps23
  go_wp2_with fail
  refine (adq_walk B v0 xs a n c zs w hown hB hrd hold hm).mono ?_
  intro e w1 hp
  cases ho : adq zs with
  | none =>
    rw [ho] at hp
    obtain ⟨rfl, v', hg⟩ := hp
    go_wp2
    go_ret3
    exact qpost_none ho ⟨rfl, v', hg⟩
  | some p =>
    obtain ⟨d, k⟩ := p
    rw [ho] at hp
    obtain ⟨v', rfl, h1, h2, h3⟩ := hp
    go_wp2
    go_ret3
    exact qpost_some ho ⟨v', rfl, h1, h2, h3⟩

theorem shift_some {d : List Int} {n : Nat} {o : Option (List Int × Nat)} {x : List Int} {k : Nat} (h : shift d n o = some (x, k)) : ∃ x' k', o = some (x', k') ∧ x = d ++ x' ∧ k = n + k' := by
  cases o with
  | none => simp [shift] at h
  | some p => simp [shift] at h; exact ⟨p.1, p.2, rfl, h.1.symm, h.2.symm⟩
theorem b8_app {x y : List Int} (h : B8 x) (k : B8 y) : B8 (x ++ y) := fun z hz => by
  rcases List.mem_append.1 hz with h1 | h1
  · exact h z h1
  · exact k z h1
theorem b8_one {c : Int} (h : 0 ≤ c ∧ c ≤ 255) : B8 [c] := fun z hz => by simp at hz; subst hz; exact h
theorem unesc_rng {c : Int} (h : 0 ≤ c ∧ c ≤ 255) : 0 ≤ unesc c ∧ unesc c ≤ 255 := by
  rcases unesc_cases c with ⟨_, e⟩ | ⟨_, _, e⟩ | ⟨_, _, _, e⟩ | ⟨_, _, _, _, e⟩ | ⟨_, _, _, _, _, e⟩ | ⟨_, _, _, _, _, e⟩ <;> rw [e] <;> omega

/-- Every decoded text is made of bytes; it takes no more bytes than there are. -/
theorem adq_b8 (f : Nat) : ∀ zs : List Int, zs.length ≤ f → B8 zs → ∀ d k, adq zs = some (d, k) → B8 d ∧ d.length + 1 ≤ k ∧ k ≤ zs.length := by
  induction f with
  | zero =>
    intro zs hl _ d k h
    rw [List.eq_nil_of_length_eq_zero (by omega : zs.length = 0), adq_nil] at h
    simp at h
  | succ f ih =>
    intro zs hl h8 d k h
    have go : ∀ (e : List Int) (m : Nat) (r : List Int), e.length ≤ m → 0 < m → m + r.length ≤ zs.length → B8 e → (∀ z ∈ r, z ∈ zs) → adq zs = shift e m (adq r) → B8 d ∧ d.length + 1 ≤ k ∧ k ≤ zs.length := by
      intro e m r h1 h2 h3 h4 h5 h6
      rw [h6] at h
      obtain ⟨x', k', hr, rfl, rfl⟩ := shift_some h
      obtain ⟨a1, a2, a3⟩ := ih r (by omega) (fun z hz => h8 z (h5 z hz)) x' k' hr
      exact ⟨b8_app h4 a1, by simp; omega, by omega⟩
    match zs, hl, h8, h, go with
    | [], _, _, h, _ => rw [adq_nil] at h; simp at h
    | c :: r, hl, h8, h, go =>
      by_cases h34 : c = 34
      · subst h34
        rw [adq_close] at h
        simp at h
        obtain ⟨rfl, rfl⟩ := h
        exact ⟨B8.nil, by simp, by simp⟩
      by_cases h92 : c = 92
      · subst h92
        match r, hl, h8, h, go with
        | [], _, _, h, _ => rw [adq_last] at h; simp at h
        | x :: r1, hl, h8, h, go =>
          have hx := h8 x (by simp)
          by_cases hA : x = 120 ∧ ∃ a b r2, r1 = a :: b :: r2 ∧ hexb a = true ∧ hexb b = true
          · obtain ⟨rfl, a, b, r2, rfl, ha, hb⟩ := hA
            have q1 := hexv_rng ha
            have q2 := hexv_rng hb
            exact go _ 4 r2 (by simp) (by omega) (by simp; omega) (b8_one (by omega)) (fun z hz => by simp [hz]) (adq_hex r2 ha hb)
          · exact go _ 2 r1 (by simp) (by omega) (by simp; omega) (b8_one (unesc_rng hx)) (fun z hz => by simp [hz]) (adq_any r1 (fun e a b r2 hr hh => hA ⟨e, a, b, r2, hr, hh⟩))
      · exact go _ 1 r (by simp) (by omega) (by simp; omega) (b8_one (h8 c (by simp))) (fun z hz => by simp [hz]) (adq_plain r h34 h92)

theorem apart_ne {B w v zs B' w' v' zs'} (h : Own B w v zs) (h' : Own B' w' v' zs') (hB : w.heap.size ≤ B' := by exact Nat.le_refl _) : v.ownBlock = none ∨ v.ownBlock ≠ v'.ownBlock := by
  cases e : v.ownBlock with
  | none => exact .inl rfl
  | some k =>
    refine .inr fun e2 => ?_
    have := (World.ownsRow.lt h k e).2
    have := (World.ownsRow.lt h' k e2.symm).1
    omega
theorem apart_of {B w u n c zs w' v' zs'} (h : Own B w (.slice u n c) zs) (h' : Own w.heap.size w' v' zs') (hb : Below w.heap.size w w') (h8 : B8 zs) (hm : zs.length ≤ 9223372036854775807) : ∀ x, u = some x → 0 < n → x.block < w'.heap.size ∧ some x.block ≠ v'.ownBlock := by
  intro x hx h0
  have hlt := (h.arg h8 hm).old x hx h0
  refine ⟨Nat.lt_of_lt_of_le hlt hb.size, fun e => ?_⟩
  have := (World.ownsRow.lt h' x.block e.symm).1
  omega
theorem Own.nil_iff {B w u n c zs} (h : Own B w (.slice u n c) zs) : Value.slice u n c = .slice none 0 0 ↔ u.isNone = true := by
  rcases h.shape with ⟨h1, rfl⟩ | ⟨g, cap, h1, _⟩
  · simp only [Value.slice.injEq] at h1
    obtain ⟨rfl, rfl, rfl⟩ := h1
    simp
  · simp at h1; simp [h1.1]

theorem Own.slice {B w v zs} (h : Own B w v zs) : ∃ u n c, v = .slice u n c := by
  rcases h.shape with ⟨h1, rfl⟩ | ⟨g, cap, h1, _⟩
  · exact ⟨_, _, _, h1⟩
  · exact ⟨_, _, _, h1⟩

theorem rd_nil (w : World) (a : Option Addr) : Rd w a 0 [] := ⟨rfl, B8.nil, fun h => by omega⟩
theorem rd_take {w a n} {x y : List Int} (h : Rd w a n (x ++ y)) : Rd w a x.length x := by
  refine ⟨rfl, fun z hz => h.b8 z (List.mem_append_left _ hz), fun hp => ?_⟩
  have hl := h.hlen
  rw [List.length_append] at hl
  obtain ⟨b, off, rfl, hc⟩ := h.cells (by omega)
  refine ⟨b, off, rfl, fun i hi => ?_⟩
  rw [hc i (by omega)]
  simp [List.getElem?_append, hi]
theorem rd_drop {w b off n} {x y : List Int} (h : Rd w (some ⟨b, off, none⟩) n (x ++ y)) : Rd w (some ⟨b, off + x.length, none⟩) y.length y := by
  refine ⟨rfl, fun z hz => h.b8 z (List.mem_append_right _ hz), fun hp => ?_⟩
  have hl := h.hlen
  rw [List.length_append] at hl
  obtain ⟨b', off', e, hc⟩ := h.cells (by omega)
  simp only [Option.some.injEq, Addr.mk.injEq, and_true] at e
  obtain ⟨rfl, rfl⟩ := e
  refine ⟨b, off + x.length, rfl, fun i hi => ?_⟩
  rw [Nat.add_assoc, hc (x.length + i) (by omega)]
  simp [List.getElem?_append_right]

set_option maxHeartbeats 1000000 in
theorem adqm_walk (a : Option Addr) (len cap : Nat) (xs : List Int) (a' : Option Addr) (len' cap' : Nat) (zs : List Int) (w : World) (h : Arg w a len xs) (h' : Arg w a' len' zs) :
    Calls Try.prog 7 #[.slice a len cap, .slice a' len' cap'] w fun e w' => e = .returned (.bool true) ∧ Below w.heap.size w w' := by
  have hmx := h.max
  have hmx' := h'.max
  have hq := fun w x n c => Lib.run_eql_slice_nil (P := Try.prog) w 22 5 x n c 0 0 Try.underlying22
  by_cases h1 : len + len' ≤ 1048576
  · have HZ : Hid (decide (len + len' ≤ 1048576) = true) := decide_eq_true h1
    by_cases h2 : len ≤ 65536
    · by_cases h3 : len' ≤ 65536
      · go_enter Try.func7, Try.ntmps7
        go_wp2_with fail
        refine (zz22 _ _ _ _ _ _ _ hmx hmx').mono ?_
        rw [HZ.out]
        rintro e w1 ⟨rfl, hw⟩
        have hw := hw.symm
        subst hw
        go_wp2_with fail
        refine (clone_arg a len cap xs _ h (by omega)).mono ?_
        rintro e w1 ⟨u1, n1, c1, rfl, own1, bel1, nil1⟩
        go_wp2_with fail
        refine (clone_arg a' len' cap' zs _ (h'.mono bel1 (Nat.le_refl _)) (by omega)).mono ?_
        rintro e w2 ⟨u2, n2, c2, rfl, own2, bel2, nil2⟩
        have own1' := Below.own bel2 own1 (Nat.le_refl _)
        have cap1 := own1.cap
        have cap2 := own2.cap
        have S1 : Hid (xs.length = len) := h.rd.hlen
        have S2 : Hid (zs.length = len') := h'.rd.hlen
        have l1 : n1 ≤ 65536 := by have := S1.out; omega
        have l2 : n2 ≤ 65536 := by have := S2.out; omega
        have X8 : Hid (B8 xs) := h.rd.b8
        have Z8 : Hid (B8 zs) := h'.rd.b8
        clear h h' nil2
        go_wp2_with fail
        refine (clone_arg u1 n1 c1 xs _ (own1'.arg X8.out (by omega)) (by omega)).mono ?_
        rintro e w3 ⟨u3, n3, c3, rfl, own3, bel3, nil3⟩
        have own1'' := Below.own bel3 own1' (Nat.le_refl _)
        have own2' := Below.own bel3 own2 (Nat.le_refl _)
        go_wp2_with fail
        refine (zadq_walk w2.heap.size (.slice u3 n3 c3) xs u2 n2 c2 zs _ own3 bel3.size (own2'.rd Z8.out) (apart_of own2 own3 bel3 Z8.out (by omega)) (by omega)).mono ?_
        intro e w4 hp
        have hout := adq_b8 _ zs (Nat.le_refl _) Z8.out
        generalize hO : adq zs = O at *
        cases O with
        | none =>
          obtain ⟨rfl, v', hg⟩ := hp
          have own2'' := hg.own own2' (apart_ne own2 own3)
          have gs := hg.grown.size
          have belA := hg.below bel3.size (fun k hk => (World.ownsRow.lt own3 k hk).1)
          clear hg
          go_wp2_with fail
          refine (mdq_walk u2 n2 c2 zs w4 (own2''.rd Z8.out) (own2''.arg Z8.out (by omega)).old (by omega)).mono ?_
          intro e w5 hp
          rw [hO] at hp
          obtain ⟨rfl, v5, hg5⟩ := hp
          have belB := (((Below.refl w4.heap.size w4).alloc (Nat.le_refl _) (.cells #[] 5))).trans (hg5.below (by simp) (by intro k hk; simp [Value.ownBlock] at hk; omega))
          go_wp2
          go_ret
          refine ⟨rfl, ?_⟩
          have q1 := bel1.size
          have q2 := bel2.size
          have q3 := bel3.size
          exact (((bel1.trans (bel2.mono (by omega))).trans (bel3.mono (by omega))).trans (belA.mono (by omega))).trans (belB.mono (by omega))
        | some p =>
          obtain ⟨d, k⟩ := p
          obtain ⟨v', rfl, ho, hg, hn⟩ := hp
          obtain ⟨d8, dk, kl⟩ := hout d k rfl
          clear hout
          have own2'' := hg.own own2' (apart_ne own2 own3)
          have own1q := hg.own own1'' (apart_ne own1' own3)
          have gs := hg.grown.size
          have belA := hg.below bel3.size (fun k hk => (World.ownsRow.lt own3 k hk).1)
          clear hg
          go_wp2_with fail
          refine (mdq_walk u2 n2 c2 zs w4 (own2''.rd Z8.out) (own2''.arg Z8.out (by omega)).old (by omega)).mono ?_
          intro e w5 hp
          rw [hO] at hp
          obtain ⟨v5, rfl, ho5, hg5, hn5⟩ := hp
          have belB := (((Below.refl w4.heap.size w4).alloc (Nat.le_refl _) (.cells #[] 5))).trans (hg5.below (by simp) (by intro k hk; simp [Value.ownBlock] at hk; omega))
          have belW : Below w.heap.size w w5 := by
            have q1 := bel1.size
            have q2 := bel2.size
            have q3 := bel3.size
            exact (((bel1.trans (bel2.mono (by omega))).trans (bel3.mono (by omega))).trans (belA.mono (by omega))).trans (belB.mono (by omega))
          have o1 := Below.own belB own1q (Nat.le_refl _)
          have o4 := Below.own belB ho (Nat.le_refl _)
          have hn4 : v' = .slice none 0 0 ↔ u1.isNone = true ∧ d = [] := by
            rw [hn, ← nil3]
            rw [own3.nil_iff]
          clear hn hn5 hg5 belA belB bel1 bel2 bel3 own1 own1' own1'' own1q own2 own2' own2'' own3 ho nil1 nil3 hO
          have hkk : ((k : Int) != (k : Int)) = false := by simp
          have dl : d.length ≤ 65536 := by omega
          obtain ⟨u5, n5, c5, rfl⟩ := ho5.slice
          have cap5 := ho5.cap
          have r5 := ho5.rd d8
          have r1 := o1.rd X8.out
          simp only [List.nil_append] at cap5 r5
          clear ho5 o1
          rcases o4.shape with ⟨rfl, hxd⟩ | ⟨g, cp, rfl, hg1, hg2, hcp⟩
          · obtain ⟨q1, q2⟩ := hn4.1 rfl
            have q3 : xs = [] := (List.append_eq_nil_iff.1 hxd).1
            obtain rfl : u1 = none := by cases u1 with | none => rfl | some x => simp at q1
            subst q2
            subst q3
            obtain rfl : n1 = 0 := by simpa using cap1.1.symm
            obtain rfl : n5 = 0 := by simpa using cap5.1.symm
            clear o4 hxd hn4 dk kl q1
            go_wp2_with fail
            refine (same_any _ _ _ [] _ _ _ [] _ (rd_nil _ _) (rd_nil _ _) (by omega) (by omega)).mono ?_
            rw [beq_self_eq_true]
            rintro e w6 ⟨rfl, sm6⟩
            go_wp2_with fail
            refine (same_any _ _ _ [] _ _ _ [] _ (rd_nil _ _) (rd_nil _ _) (by omega) (by omega)).mono ?_
            rw [beq_self_eq_true]
            rintro e w7 ⟨rfl, sm7⟩
            go_wp2
            go_ret
            exact ⟨rfl, belW.trans ((sm6.trans sm7).below _)⟩
          · have rg := o4.rd (b8_app X8.out d8)
            have ra := rd_take rg
            have N1 : Hid (xs.length = n1) := cap1.1
            have N5 : Hid (d.length = n5) := cap5.1
            rw [N1.out] at ra
            have hcase : (u1.isNone = true ∧ ((n5 : Int) == 0) = false) ∨ u1.isNone = false := by
              cases e : u1.isNone with
              | false => exact .inr rfl
              | true =>
                refine .inl ⟨rfl, ?_⟩
                have : d ≠ [] := fun h => by simpa using hn4.2 ⟨e, h⟩
                have := List.length_pos_iff.2 this
                rw [beq_eq_false_iff_ne]; omega
            have hL : (xs ++ d).length = n1 + n5 := by rw [List.length_append, N1.out, N5.out]
            rw [hL] at hcp rg
            rw [hL]
            have hl5 : n5 ≤ 65536 := by omega
            have hlk : (((n1 + n5 : Nat) : Int) != (n1 : Int) + (n5 : Int)) = false := by simp
            clear o4 hn4 cap1 cap5 hL
            rcases hcase with ⟨t1, t2⟩ | t1
            all_goals
              go_wp2_with fail
              refine (same_any _ n1 _ xs u1 n1 c1 xs _ ra r1 (by omega) (by omega)).mono ?_
              rw [beq_self_eq_true]
              rintro e w6 ⟨rfl, sm6⟩
              by_cases h5 : 0 < n5
              · have rd5 := sm6.rd (rd_drop rg)
                rw [N1.out, N5.out] at rd5
                simp only [Nat.zero_add] at rd5
                go_wp2_with fail
                refine (same_any _ n5 _ d u5 n5 c5 d _ rd5 (sm6.rd r5) (by omega) (by omega)).mono ?_
                rw [beq_self_eq_true]
                rintro e w7 ⟨rfl, sm7⟩
                go_wp2
                go_ret
                exact ⟨rfl, belW.trans ((sm6.trans sm7).below _)⟩
              · obtain rfl : n5 = 0 := by omega
                obtain rfl : d = [] := List.eq_nil_of_length_eq_zero N5.out
                by_cases hcn : cp = n1
                all_goals
                  go_wp2_with fail
                  refine (same_any _ _ _ [] _ _ _ [] _ (rd_nil _ _) (rd_nil _ _) (by omega) (by omega)).mono ?_
                  rw [beq_self_eq_true]
                  rintro e w7 ⟨rfl, sm7⟩
                  go_wp2
                  go_ret
                  exact ⟨rfl, belW.trans ((sm6.trans sm7).below _)⟩
      · go_enter Try.func7, Try.ntmps7
        go_wp2_with fail
        refine (zz22 _ _ _ _ _ _ _ hmx hmx').mono ?_
        rw [HZ.out]
        rintro e w1 ⟨rfl, rfl⟩
        go_wp2
        go_ret
        exact ⟨rfl, Below.refl _ _⟩
    · go_enter Try.func7, Try.ntmps7
      go_wp2_with fail
      refine (zz22 _ _ _ _ _ _ _ hmx hmx').mono ?_
      rw [HZ.out]
      rintro e w1 ⟨rfl, rfl⟩
      go_wp2
      go_ret
      exact ⟨rfl, Below.refl _ _⟩
  · have HZ : Hid (decide (len + len' ≤ 1048576) = false) := decide_eq_false h1
    go_enter Try.func7, Try.ntmps7
    go_wp2_with fail
    refine (zz22 _ _ _ _ _ _ _ hmx hmx').mono ?_
    rw [HZ.out]
    rintro e w1 ⟨rfl, rfl⟩
    go_wp2
    go_ret
    exact ⟨rfl, Below.refl _ _⟩

end Go.Proofs.Qxb6603819a
