/-
  THE PLAIN LAW: what 'fmt64' prints 'pint' reads back.
-/
import Derived.Test.Qxb6603819aPInt
import Derived.Test.Qxb6603819aFmt
namespace Go.Proofs.Qxb6603819a
open Go.RowKit

theorem run_dec (f : Nat) : ∀ (n : Nat) (t : List Int), n < 10 ^ f → n ≤ 18446744073709551615 → 0 < f → run64 0 (decF f n ++ t) = run64 n t := by
  induction f with
  | zero => intro n t _ _ h; omega
  | succ f ih =>
    intro n t hn hm _
    by_cases h : n < 10
    · rw [dec_small h (by omega)]
      show run64 0 ((48 + (n : Int)) :: t) = _
      rw [run64, if_neg (by omega), if_neg (by omega)]
      congr 1; omega
    · have hf : 0 < f := by
        rcases Nat.eq_zero_or_pos f with rfl | h'
        · simp at hn; omega
        · exact h'
      rw [dec_step h, List.append_assoc, ih (n / 10) _ (by rw [Nat.div_lt_iff_lt_mul (by omega)]; rw [Nat.pow_succ] at hn; exact hn) (by omega) hf]
      show run64 (n / 10) ((48 + ((n % 10 : Nat) : Int)) :: t) = _
      rw [run64, if_neg (by omega), if_neg (by omega)]
      congr 1; omega

theorem dec_head (f : Nat) : ∀ n : Nat, n < 10 ^ f → 0 < f → ∃ c r, decF f n = c :: r ∧ 48 ≤ c ∧ c ≤ 57 ∧ (c = 48 → n = 0 ∧ r = []) := by
  induction f with
  | zero => intro n _ h; omega
  | succ f ih =>
    intro n hn _
    by_cases h : n < 10
    · exact ⟨48 + (n : Int), [], dec_small h (by omega), by omega, by omega, fun e => ⟨by omega, rfl⟩⟩
    · have hf : 0 < f := by
        rcases Nat.eq_zero_or_pos f with rfl | h'
        · simp at hn; omega
        · exact h'
      obtain ⟨c, r, e, h1, h2, h3⟩ := ih (n / 10) (by rw [Nat.div_lt_iff_lt_mul (by omega)]; rw [Nat.pow_succ] at hn; exact hn) hf
      refine ⟨c, r ++ [48 + ((n % 10 : Nat) : Int)], by rw [dec_step h, e]; rfl, h1, h2, fun e48 => ?_⟩
      have := (h3 e48).1
      omega

theorem dec_digits (f : Nat) : ∀ n : Nat, ∀ z ∈ decF f n, 48 ≤ z ∧ z ≤ 57 := by
  induction f with
  | zero => intro n z h; simp [decF] at h
  | succ f ih =>
    intro n z hz
    by_cases h : n < 10
    · rw [dec_small h (by omega)] at hz
      simp at hz; omega
    · rw [dec_step h] at hz
      rcases List.mem_append.1 hz with h1 | h1
      · exact ih _ z h1
      · simp at h1; omega

theorem dec_len (f : Nat) : ∀ n : Nat, (decF f n).length ≤ f := by
  induction f with
  | zero => intro n; simp [decF]
  | succ f ih =>
    intro n
    by_cases h : n < 10
    · rw [dec_small h (by omega)]; simp
    · rw [dec_step h]; have := ih (n / 10); simp; omega

theorem fmt_b8 (v : Int) : B8 (fmt64 v) := by
  intro z hz
  unfold fmt64 dec at hz
  split at hz
  · rcases List.mem_cons.1 hz with h | h
    · subst h; omega
    · have := dec_digits _ _ z h; omega
  · have := dec_digits _ _ z hz; omega
theorem fmt_len (v : Int) : (fmt64 v).length ≤ 21 := by
  unfold fmt64 dec
  split
  · have := dec_len 20 (-v).toNat; simp; omega
  · have := dec_len 20 v.toNat; omega

theorem body_dec (neg : Bool) (n : Nat) (hn : n ≤ 9223372036854775808) (h0 : neg = true → 0 < n) : body64 neg (dec n) = fin64 neg (some n) := by
  obtain ⟨c, r, e, h1, h2, h3⟩ := dec_head 20 n (by omega) (by omega)
  have hr := run_dec 20 n [] (by omega) (by omega) (by omega)
  rw [List.append_nil] at hr
  unfold body64 dec
  rw [hr, e, if_neg]
  · rfl
  · rintro (h | ⟨h4, h5⟩)
    · simp at h
    · simp at h4
      obtain ⟨h6, h7⟩ := h3 h4
      subst h7
      rcases h5 with h5 | h5
      · simp at h5
      · have := h0 h5; omega

theorem pint_fmt (v : Int) (h0 : -9223372036854775808 ≤ v) (h1 : v ≤ 9223372036854775807) : pint (fmt64 v) = (v, true) := by
  unfold fmt64
  by_cases hv : v < 0
  · rw [if_pos hv]
    show (if (45 :: dec (-v).toNat).head? = some 45 then _ else _) = _
    rw [if_pos (by simp)]
    show body64 true (dec (-v).toNat) = _
    rw [body_dec true _ (by omega) (by omega), fin_neg_ok (by omega)]
    simp; omega
  · rw [if_neg hv]
    obtain ⟨c, r, e, h2, h3, h4⟩ := dec_head 20 v.toNat (by omega) (by omega)
    have hb := body_dec false v.toNat (by omega) (by simp)
    unfold pint
    rw [if_neg (by unfold dec; rw [e]; simp; omega), hb, fin_pos_ok (by omega)]
    simp; omega

end Go.Proofs.Qxb6603819a
