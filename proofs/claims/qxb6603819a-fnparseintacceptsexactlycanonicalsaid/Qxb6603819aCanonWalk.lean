/-
  'FnParseIntAcceptsExactlyCanonical' walked.
-/
import Derived.Test.Qxb6603819aCanonLaw
import Derived.Test.Qxb6603819aArg
namespace Go.Proofs.Qxb6603819a
open Go.RowKit

set_option maxHeartbeats 400000 in
theorem zz9 (a : Option Addr) (len cap : Nat) (w : World) (hm : len ≤ 9223372036854775807) :
    Calls Try.prog 9 #[.slice a len cap] w fun e w' => e = .returned (.bool (decide (len ≤ 1048576))) ∧ w' = w := by
  by_cases h : len ≤ 1048576
  · rw [decide_eq_true h]
    go_enter Try.func9, Try.ntmps9
    go_wp2
    go_ret
    exact ⟨rfl, rfl⟩
  · rw [decide_eq_false h]
    go_enter Try.func9, Try.ntmps9
    go_wp2
    go_ret
    exact ⟨rfl, rfl⟩

set_option maxHeartbeats 400000 in
theorem accepts_walk (a : Option Addr) (len cap : Nat) (zs : List Int) (w : World) (h : Arg w a len zs) :
    Calls Try.prog 3 #[.slice a len cap] w fun e w' => e = .returned (.bool true) ∧ Below w.heap.size w w' := by
  have hmx := h.max
  by_cases h1 : len ≤ 1048576
  · have HZ : Hid (decide (len ≤ 1048576) = true) := decide_eq_true h1
    by_cases h2 : len ≤ 65536
    · go_enter Try.func3, Try.ntmps3
      go_wp2_with fail
      refine (zz9 _ _ _ _ hmx).mono ?_
      rw [HZ.out]
      rintro e w1 ⟨rfl, rfl⟩
      go_wp2_with fail
      refine (clone_any a len cap zs _ h.rd h.nil (by omega) h.old).mono ?_
      rintro e w1 ⟨u, n, c, rfl, hown, hbel, _⟩
      have hcap := hown.cap
      have hrd := hown.rd h.rd.b8
      have hl : Hid (zs.length = len) := h.rd.hlen
      have hn : n ≤ 65536 := by have := hl.out; omega
      have hb8 : Hid (B8 zs) := h.rd.b8
      clear h
      go_wp2_with fail
      refine (parse_any u n c zs _ hrd hcap.2 (by omega)).mono ?_
      rintro e w2 ⟨rfl, rfl⟩
      go_wp2_with fail
      refine (canon_any u n c zs _ hrd hcap.2 (by omega)).mono ?_
      rintro e w3 ⟨rfl, hsm⟩
      obtain ⟨L1, L2, L3⟩ := canon_pint zs
      generalize hv : (pint zs).1 = v at *
      rw [← L1]
      generalize hok : (pint zs).2 = ok at *
      clear L1 hv hok
      cases ok with
      | false =>
        have hv0 : (v == 0) = true := by simp [L2 rfl]
        clear L2 L3
        go_wp2
        go_ret
        exact ⟨rfl, hbel.trans (hsm.below _)⟩
      | true =>
        obtain ⟨e1, e2, e3⟩ := L3 rfl
        have E1 : Hid (fmt64 v = zs) := e1
        clear L2 L3 e1
        go_wp2_with fail
        refine (format_any v _ e2 e3).mono ?_
        rintro e w4 ⟨u4, n4, c4, rfl, hown4, hbel4⟩
        rw [E1.out] at hown4
        have hrd1 := (Below.own hbel4 (hsm.own hown) (Nat.le_refl _)).rd hb8.out
        have hrd4 := hown4.rd hb8.out
        have hc4 := hown4.cap
        have hsz := Nat.le_trans hbel.size (hsm.below 0).size
        clear hown4 hrd
        go_wp2_with fail
        refine (same_any u4 n4 c4 zs u n c zs _ hrd4 hrd1 (by omega) (by omega)).mono ?_
        rw [beq_self_eq_true]
        rintro e w5 ⟨rfl, hsm5⟩
        go_wp2
        go_ret
        exact ⟨rfl, ((hbel.trans (hsm.below _)).trans (hbel4.mono hsz)).trans (hsm5.below _)⟩
    · go_enter Try.func3, Try.ntmps3
      go_wp2_with fail
      refine (zz9 _ _ _ _ hmx).mono ?_
      rw [HZ.out]
      rintro e w1 ⟨rfl, rfl⟩
      go_wp2
      go_ret
      exact ⟨rfl, Below.refl _ _⟩
  · have HZ : Hid (decide (len ≤ 1048576) = false) := decide_eq_false h1
    go_enter Try.func3, Try.ntmps3
    go_wp2_with fail
    refine (zz9 _ _ _ _ hmx).mono ?_
    rw [HZ.out]
    rintro e w1 ⟨rfl, rfl⟩
    go_wp2
    go_ret
    exact ⟨rfl, Below.refl _ _⟩

end Go.Proofs.Qxb6603819a
