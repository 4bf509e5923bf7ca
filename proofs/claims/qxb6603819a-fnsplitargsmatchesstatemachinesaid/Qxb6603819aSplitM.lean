/-
  'sameArgs' and 'FnSplitArgsMatchesStateMachine' walked.
-/
import Derived.Test.Qxb6603819aMachWalk
import Derived.Test.Qxb6603819aSplitWalk
import Derived.Test.Qxb6603819aSs
namespace Go.Proofs.Qxb6603819a
open Go.RowKit
set_option linter.unusedVariables false

/-- A cell of a row of slices of the call's own. -/
theorem rowm_cell {B : Nat} {w : World} {u : Option Addr} {n c m : Nat} {vs : List Value} (h : w.ownsRow B 22 1 (.slice u n c) m vs) (k : Nat) (hk : k < m) :
    ∃ g x, u = some ⟨g, 0, none⟩ ∧ vs[k]? = some x ∧ w.cell? ⟨g, k, none⟩ = some x := by
  have hl := h.1
  rcases h.2 with ⟨h1, h2⟩ | ⟨g, cap, cur, h1, _⟩
  · omega
  · simp only [Value.slice.injEq] at h1
    obtain ⟨rfl, rfl, rfl⟩ := h1
    refine ⟨g, vs[k]'(by omega), rfl, List.getElem?_eq_getElem (by omega), ?_⟩
    rw [World.ownsRow.cellAt h k (by omega)]
    exact List.getElem?_eq_getElem (by omega)

theorem args_shape {B M : Nat} {w : World} {v : Value} {zss : List (List Int)} (h : Args B M w v zss) (hn : v = .slice none 0 0 ↔ zss = []) : ∃ u c, v = .slice u zss.length c ∧ u.isNone = ((zss.length : Int) == 0) := by
  obtain ⟨vs, hr, _⟩ := h.ex
  rcases hr.2 with ⟨e1, e2⟩ | ⟨g, cp, cur, e1, _⟩
  · exact ⟨none, 0, by rw [e1, e2], by simp [e2]⟩
  · refine ⟨_, cp, e1, ?_⟩
    have hne : zss ≠ [] := fun h => by have := hn.2 h; rw [e1] at this; simp at this
    simp [hne]

theorem own_some {B : Nat} {w : World} {x : Value} {zs : List Int} (h : Own B w x zs) (hn : x ≠ .slice none 0 0) : ∃ a n c, x = .slice (some a) n c := by
  rcases h.shape with ⟨h1, _⟩ | ⟨g, cap, h1, _⟩
  · exact absurd h1 hn
  · exact ⟨_, _, _, h1⟩

set_option maxRecDepth 100000 in
set_option maxHeartbeats 2000000 in
theorem sameArgs_walk (B M B' M' : Nat) (v v' : Value) (zss : List (List Int)) (w : World) (h : Args B M w v zss) (h' : Args B' M' w v' zss) (hn : v = .slice none 0 0 ↔ zss = []) (hn' : v' = .slice none 0 0 ↔ zss = []) (h8 : ∀ i, B8 (zss.getD i [])) (hm : zss.length ≤ 10000000) (hs : ∀ i, (zss.getD i []).length ≤ 10000000) :
    Calls Try.prog 18 #[v, v'] w fun e w' => e = .returned (.bool true) ∧ Sm w w' := by
  have hq := fun w x n c => Lib.run_eql_slice_nil (P := Try.prog) w 30 22 x n c 0 0 Try.underlying30
  have hq2 := fun w x n c => Lib.run_eql_slice_nil (P := Try.prog) w 22 5 x n c 0 0 Try.underlying22
  obtain ⟨u, c, rfl, e1⟩ := args_shape h hn
  obtain ⟨u', c', rfl, e2⟩ := args_shape h' hn'
  obtain ⟨vs, hr, he⟩ := h.ex
  obtain ⟨vs', hr', he'⟩ := h'.ex
  have h8 := hid h8
  have hs := hid hs
  have hr := hid hr
  have hr' := hid hr'
  have he := hid he
  have he' := hid he'
  clear h h' hn hn'
  generalize hN : zss.length = N at *
  have HN := hid hN
  clear hN
  have hkk : ((N : Int) != (N : Int)) = false := by simp
  cases hz : ((N : Int) == 0)
  all_goals
    rw [hz] at e1 e2
    go_enter Try.func18, Try.ntmps18
    go_wp2
    go_loopw [5] (fun i wr => ∃ q : Nat, q ≤ N ∧ i = .int .i64 q ∧ Sm w wr) (fun i _ => N - (intOf i).toNat)
    case atStart => exact ⟨0, by omega, rfl, Sm.refl _⟩
    case round =>
      obtain ⟨q, hq0, rfl, hsm⟩ := hrel
      by_cases hql : q < N
      · obtain ⟨g7, x7, hu7, hx7, hc7⟩ := rowm_cell hr.out q hql
        subst hu7
        obtain ⟨g1, x1, hu1, hx1, hc1⟩ := rowm_cell hr'.out q hql
        subst hu1
        obtain ⟨o7, nn7, _⟩ := he.out q x7 hx7
        obtain ⟨o1, nn1, _⟩ := he'.out q x1 hx1
        obtain ⟨a7, n7, d7, e7⟩ := own_some o7 nn7
        obtain ⟨a1, m1, d1, e1'⟩ := own_some o1 nn1
        subst e7
        subst e1'
        have lx := hs.out q
        have r7 := hid (hsm.rd (o7.rd (h8.out q)))
        have r1 := hid (hsm.rd (o1.rd (h8.out q)))
        have l7 : n7 ≤ 10000000 := by have := o7.cap; omega
        have l1 : m1 ≤ 10000000 := by have := o1.cap; omega
        have k7 : wr.cell? ⟨g7, q, none⟩ = some (.slice (some a7) n7 d7) := by rw [hsm.cell]; exact hc7
        have k1 : wr.cell? ⟨g1, q, none⟩ = some (.slice (some a1) m1 d1) := by rw [hsm.cell]; exact hc1
        have hqi : (q : Int) < N := by omega
        clear hx7 hx1 hc7 hc1 o7 o1 lx nn7 nn1
        go_wp2
        go_quiet ((go_at_call 13; exact Calls.quiet_of (same_quiet _ _ _ (zss.getD q []) _ _ _ (zss.getD q []) _ ((Sm.drewN _ _).rd r7.out) ((Sm.drewN _ _).rd r1.out) (by omega) (by omega) rfl)))
        go_wp2
        go_roundw
        case rel => exact ⟨q + 1, by omega, by go_num, ⟨hsm.heap, hsm.os, hsm.tape, hsm.output⟩⟩
        case measure => simp [intOf]; omega
      · go_wp2
        go_ret
        exact ⟨rfl, hsm⟩

set_option maxHeartbeats 400000 in
theorem zz15 (a : Option Addr) (len cap : Nat) (w : World) (hm : len ≤ 9223372036854775807) :
    Calls Try.prog 15 #[.slice a len cap] w fun e w' => e = .returned (.bool (decide (len ≤ 1048576))) ∧ w' = w := by
  by_cases h : len ≤ 1048576
  · rw [decide_eq_true h]
    go_enter Try.func15, Try.ntmps15
    go_wp2
    go_ret
    exact ⟨rfl, rfl⟩
  · rw [decide_eq_false h]
    go_enter Try.func15, Try.ntmps15
    go_wp2
    go_ret
    exact ⟨rfl, rfl⟩

/-- Every argument that a line is split into is made of bytes and no longer than the line. -/
theorem sp_small (f : Nat) : ∀ (m : Option (List Int)) (l : List Int) (zss : List (List Int)), sp f m l = some zss → B8 l → (∀ cur, m = some cur → B8 cur) →
    (∀ z ∈ zss, B8 z ∧ z.length ≤ (m.getD []).length + l.length) ∧ zss.length ≤ l.length + 1 := by
  induction f with
  | zero => intro m l zss h; simp [sp] at h
  | succ f ih =>
    intro m l zss h h8 hc
    match m, l with
    | none, [] => simp [sp] at h; subst h; simp
    | none, c :: r =>
      have h8r : B8 r := fun z hz => h8 z (by simp [hz])
      simp only [sp] at h
      split at h
      · obtain ⟨a1, a2⟩ := ih none r zss h h8r (fun _ e => by simp at e)
        refine ⟨fun z hz => ⟨(a1 z hz).1, ?_⟩, by simp; omega⟩
        have := (a1 z hz).2
        simp at this ⊢; omega
      · obtain ⟨a1, a2⟩ := ih (some []) (c :: r) zss h h8 (fun cur e => by simp at e; subst e; exact B8.nil)
        exact ⟨fun z hz => ⟨(a1 z hz).1, by simpa using (a1 z hz).2⟩, a2⟩
    | some cur, [] =>
      simp [sp] at h; subst h
      have := hc cur rfl
      simp [this]
    | some cur, c :: r =>
      have h8r : B8 r := fun z hz => h8 z (by simp [hz])
      have h8c := h8 c (by simp)
      have hcur := hc cur rfl
      have quote : ∀ d n, B8 d → d.length + 1 ≤ n → n ≤ r.length → sp f (some (cur ++ d)) (r.drop n) = some zss → (∀ z ∈ zss, B8 z ∧ z.length ≤ ((some cur).getD []).length + (c :: r).length) ∧ zss.length ≤ (c :: r).length + 1 := by
        intro d n q1 q2 q3 q4
        obtain ⟨a1, a2⟩ := ih (some (cur ++ d)) (r.drop n) zss q4 (fun z hz => h8r z (List.mem_of_mem_drop hz)) (fun x e => by simp at e; subst e; exact b8_app hcur q1)
        refine ⟨fun z hz => ⟨(a1 z hz).1, ?_⟩, by simp at a2 ⊢; omega⟩
        have := (a1 z hz).2
        simp at this ⊢; omega
      simp only [sp] at h
      split at h
      · rw [Option.map_eq_some_iff] at h
        obtain ⟨t, ht, rfl⟩ := h
        obtain ⟨a1, a2⟩ := ih none r t ht h8r (fun _ e => by simp at e)
        refine ⟨fun z hz => ?_, by simp; omega⟩
        rcases List.mem_cons.1 hz with rfl | hz
        · exact ⟨hcur, by simp⟩
        · refine ⟨(a1 z hz).1, ?_⟩
          have := (a1 z hz).2
          simp at this ⊢; omega
      · split at h
        · cases ha : adq r with
          | none => rw [ha] at h; simp at h
          | some p =>
            rw [ha] at h
            simp only at h
            obtain ⟨b1, b2, b3⟩ := adq_b8 _ r (Nat.le_refl _) h8r p.1 p.2 ha
            split at h
            · exact quote p.1 p.2 b1 b2 b3 h
            · simp at h
        · split at h
          · cases ha : asq r with
            | none => rw [ha] at h; simp at h
            | some p =>
              rw [ha] at h
              simp only at h
              obtain ⟨b1, b2, b3⟩ := asq_b8 _ r (Nat.le_refl _) h8r p.1 p.2 ha
              split at h
              · exact quote p.1 p.2 b1 b2 b3 h
              · simp at h
          · obtain ⟨a1, a2⟩ := ih (some (cur ++ [c])) r zss h h8r (fun x e => by simp at e; subst e; exact b8_app hcur (b8_one h8c))
            refine ⟨fun z hz => ⟨(a1 z hz).1, ?_⟩, by simp; omega⟩
            have := (a1 z hz).2
            simp at this ⊢; omega

theorem SP_small {l : List Int} {zss : List (List Int)} (h : SP none l = some zss) (h8 : B8 l) : (∀ i, B8 (zss.getD i [])) ∧ (∀ i, (zss.getD i []).length ≤ l.length) ∧ zss.length ≤ l.length + 1 := by
  obtain ⟨a1, a2⟩ := sp_small _ none l zss h h8 (fun _ e => by simp at e)
  refine ⟨fun i => ?_, fun i => ?_, a2⟩
  · by_cases hi : i < zss.length
    · rw [List.getD_eq_getElem?_getD, List.getElem?_eq_getElem hi]; exact (a1 _ (List.getElem_mem hi)).1
    · rw [List.getD_eq_getElem?_getD, List.getElem?_eq_none (by omega)]; exact B8.nil
  · by_cases hi : i < zss.length
    · rw [List.getD_eq_getElem?_getD, List.getElem?_eq_getElem hi]
      have := (a1 _ (List.getElem_mem hi)).2
      simpa using this
    · rw [List.getD_eq_getElem?_getD, List.getElem?_eq_none (by omega)]; simp

set_option maxHeartbeats 1000000 in
theorem split_nil (a : Option Addr) (c : Nat) (w : World) : Calls Try.prog 16 #[.slice a 0 c] w (SPost w (SP none [])) := by
  have P : Hid (SPost w (SP none []) (.returned (.tuple #[.slice none 0 0, .bool true])) w) := ⟨.slice none 0 0, rfl, Args.nil _ _ _, by simp, Below.refl _ _⟩
  go_enter Try.func16, Try.ntmps16
  go_wp2
  go_loopw [2, 4] (fun v i wr => v = .slice none 0 0 ∧ i = .int .i64 0 ∧ wr = w) (fun _ _ _ => 0)
  case atStart => exact ⟨rfl, rfl, rfl⟩
  case round =>
    obtain ⟨rfl, rfl, rfl⟩ := hrel
    go_wp2
    go_loop [4] (fun i => i = .int .i64 0) (fun _ => 0)
    case atStart => rfl
    case round =>
      obtain rfl := hrel
      go_wp2
      go_ret2
      exact P.out

theorem split_any (a : Option Addr) (n c : Nat) (zs : List Int) (w : World) (h : Arg w a n zs) (hcap : n ≤ c) (hm : n ≤ 10000000) : Calls Try.prog 16 #[.slice a n c] w (SPost w (SP none zs)) := by
  by_cases h0 : n = 0
  · subst h0
    obtain rfl := List.eq_nil_of_length_eq_zero h.rd.hlen
    exact split_nil a c w
  · obtain ⟨b, off, rfl, _⟩ := h.rd.cells (by omega)
    exact split_walk b off n c zs w h.rd (h.old _ rfl (by omega)) hcap hm (by omega)

set_option maxRecDepth 100000 in
set_option maxHeartbeats 2000000 in
theorem splitm_walk (a : Option Addr) (len cap : Nat) (zs : List Int) (w : World) (h : Arg w a len zs) :
    Calls Try.prog 5 #[.slice a len cap] w fun e w' => e = .returned (.bool true) ∧ Below w.heap.size w w' := by
  have hmx := h.max
  by_cases h1 : len ≤ 1048576
  · have HZ : Hid (decide (len ≤ 1048576) = true) := decide_eq_true h1
    by_cases h2 : len ≤ 65536
    · go_enter Try.func5, Try.ntmps5
      go_wp2_with fail
      refine (zz15 _ _ _ _ hmx).mono ?_
      rw [HZ.out]
      rintro e w' ⟨rfl, hw⟩
      have hw := hw.symm
      subst hw
      go_wp2_with fail
      refine (clone_arg a len cap zs _ h (by omega)).mono ?_
      rintro e w1 ⟨u1, n1, c1, rfl, own1, bel1, nil1⟩
      have cap1 := own1.cap
      have S1 : Hid (zs.length = len) := h.rd.hlen
      have Z8 : Hid (B8 zs) := h.rd.b8
      have l1 : n1 ≤ 65536 := by have := S1.out; omega
      have arg1 := hid (own1.arg Z8.out (by omega))
      have bel1 := hid bel1
      clear h nil1
      go_wp2_with fail
      refine (split_any u1 n1 c1 zs _ arg1.out cap1.2 (by omega)).mono ?_
      intro e w2 hp
      cases ho : SP none zs with
      | none =>
        rw [ho] at hp
        obtain ⟨rfl, bel2⟩ := hp
        have arg2 := hid (arg1.out.mono bel2 (Nat.le_refl _))
        go_wp2_with fail
        refine (mach_walk u1 n1 c1 zs _ arg2.out.rd arg2.out.old (by omega)).mono ?_
        intro e w3 hp
        rw [ho] at hp
        obtain ⟨rfl, bel3⟩ := hp
        have belA := hid ((bel1.out.trans (bel2.mono bel1.out.size)).trans (bel3.mono (Nat.le_trans bel1.out.size bel2.size)))
        clear ho bel2 bel3
        go_wp2_with fail
        refine (sameArgs_walk 0 0 0 0 _ _ [] _ (Args.nil _ _ _) (Args.nil _ _ _) (by simp) (by simp) (fun i => by simp; exact B8.nil) (by simp) (fun i => by simp)).mono ?_
        rintro e w4 ⟨rfl, sm⟩
        go_wp2
        go_ret
        exact ⟨rfl, belA.out.trans (sm.below _)⟩
      | some zss =>
        rw [ho] at hp
        obtain ⟨v2, rfl, ar2, nil2, bel2⟩ := hp
        have arg2 := hid (arg1.out.mono bel2 (Nat.le_refl _))
        go_wp2_with fail
        refine (mach_walk u1 n1 c1 zs _ arg2.out.rd arg2.out.old (by omega)).mono ?_
        intro e w3 hp
        rw [ho] at hp
        obtain ⟨v3, rfl, ar3, nil3, bel3⟩ := hp
        have belA := hid ((bel1.out.trans (bel2.mono bel1.out.size)).trans (bel3.mono (Nat.le_trans bel1.out.size bel2.size)))
        have ar2' := hid (ar2.keep (fun k hk => bel3.block k hk))
        have ar3 := hid ar3
        have nil2 := hid nil2
        have nil3 := hid nil3
        have sm := hid (SP_small ho Z8.out)
        have zl : zs.length ≤ 65536 := by have := S1.out; omega
        clear ho bel2 bel3 ar2
        go_wp2_with fail
        refine (sameArgs_walk _ _ _ _ v2 v3 zss _ ar2'.out ar3.out nil2.out nil3.out sm.out.1 (by have := sm.out.2.2; omega) (fun i => by have := sm.out.2.1 i; omega)).mono ?_
        rintro e w4 ⟨rfl, sm4⟩
        go_wp2
        go_ret
        exact ⟨rfl, belA.out.trans (sm4.below _)⟩
    · go_enter Try.func5, Try.ntmps5
      go_wp2_with fail
      refine (zz15 _ _ _ _ hmx).mono ?_
      rw [HZ.out]
      rintro e w1 ⟨rfl, rfl⟩
      go_wp2
      go_ret
      exact ⟨rfl, Below.refl _ _⟩
  · have HZ : Hid (decide (len ≤ 1048576) = false) := decide_eq_false h1
    go_enter Try.func5, Try.ntmps5
    go_wp2_with fail
    refine (zz15 _ _ _ _ hmx).mono ?_
    rw [HZ.out]
    rintro e w1 ⟨rfl, rfl⟩
    go_wp2
    go_ret
    exact ⟨rfl, Below.refl _ _⟩

end Go.Proofs.Qxb6603819a
