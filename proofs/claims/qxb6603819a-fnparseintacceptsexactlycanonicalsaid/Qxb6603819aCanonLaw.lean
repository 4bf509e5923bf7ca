/-
  THE PLAIN LAW: 'pint' accepts exactly what 'canon' accepts, and what it reads prints back.
-/
import Derived.Test.Qxb6603819aCanon
import Derived.Test.Qxb6603819aPIntLaw
namespace Go.Proofs.Qxb6603819a
open Go.RowKit

def isD (ds : List Int) : Prop := ∀ c ∈ ds, 48 ≤ c ∧ c ≤ 57

def V (n : Nat) : List Int → Nat
  | [] => n
  | c :: r => V (n * 10 + (c - 48).toNat) r

theorem V_lo (ds : List Int) : ∀ n, n * 10 ^ ds.length ≤ V n ds := by
  induction ds with
  | nil => intro n; simp [V]
  | cons c r ih =>
    intro n
    have h := ih (n * 10 + (c - 48).toNat)
    simp only [V, List.length_cons, Nat.pow_succ]
    refine Nat.le_trans ?_ h
    have : n * (10 ^ r.length * 10) = n * 10 * 10 ^ r.length := by rw [Nat.mul_comm (10 ^ r.length) 10, Nat.mul_assoc]
    rw [this]
    exact Nat.mul_le_mul_right _ (by omega)

theorem V_hi (ds : List Int) : ∀ n, isD ds → V n ds < (n + 1) * 10 ^ ds.length := by
  induction ds with
  | nil => intro n _; simp [V]
  | cons c r ih =>
    intro n hd
    have hc := hd c (List.mem_cons_self ..)
    have h := ih (n * 10 + (c - 48).toNat) (fun x hx => hd x (List.mem_cons_of_mem _ hx))
    simp only [V, List.length_cons, Nat.pow_succ]
    refine Nat.lt_of_lt_of_le h ?_
    have : (n + 1) * (10 ^ r.length * 10) = ((n + 1) * 10) * 10 ^ r.length := by rw [Nat.mul_comm (10 ^ r.length) 10, Nat.mul_assoc]
    rw [this]
    exact Nat.mul_le_mul_right _ (by omega)

theorem V_ge (ds : List Int) (n : Nat) : n ≤ V n ds := by
  have h := V_lo ds n
  exact Nat.le_trans (Nat.le_mul_of_pos_right n (Nat.pow_pos (by omega))) h

theorem run_V (ds : List Int) : ∀ n, isD ds → n ≤ 18446744073709551615 → run64 n ds = if V n ds ≤ 18446744073709551615 then some (V n ds) else none := by
  induction ds with
  | nil => intro n _ h; rw [V, if_pos h]; rfl
  | cons c r ih =>
    intro n hd hn
    have hc := hd c (List.mem_cons_self ..)
    rw [run64, if_neg (by omega), V]
    by_cases h : 18446744073709551615 < n * 10 + (c - 48).toNat
    · have := V_ge r (n * 10 + (c - 48).toNat)
      rw [if_pos h, if_neg (by omega)]
    · rw [if_neg h, ih _ (fun x hx => hd x (List.mem_cons_of_mem _ hx)) (by omega)]

theorem run_not (ds : List Int) : ∀ n, ¬ isD ds → run64 n ds = none := by
  induction ds with
  | nil => intro n h; exact absurd (fun c hc => by simp at hc) h
  | cons c r ih =>
    intro n h
    rw [run64]
    by_cases hc : c < 48 ∨ 57 < c
    · rw [if_pos hc]
    · rw [if_neg hc]
      split
      · rfl
      · refine ih _ (fun hr => h fun x hx => ?_)
        rcases List.mem_cons.1 hx with rfl | hx
        · omega
        · exact hr x hx

theorem cmp_V (ds : List Int) : ∀ (ls : List Int) (n : Nat), isD ds → isD ls → ds.length = ls.length → (cmpL ds ls = true ↔ V n ds ≤ V n ls) := by
  induction ds with
  | nil =>
    intro ls n _ _ h
    have := List.eq_nil_of_length_eq_zero h.symm
    subst this
    simp [cmpL]
  | cons c r ih =>
    intro ls n hd hl h
    cases ls with
    | nil => simp at h
    | cons l s =>
      have hc := hd c (List.mem_cons_self ..)
      have hl' := hl l (List.mem_cons_self ..)
      have hd2 : isD r := fun x hx => hd x (List.mem_cons_of_mem _ hx)
      have hl2 : isD s := fun x hx => hl x (List.mem_cons_of_mem _ hx)
      have hlen : r.length = s.length := by simpa using h
      rw [cmpL]
      by_cases e : c = l
      · subst e
        rw [if_pos rfl]
        exact ih s _ hd2 hl2 hlen
      · rw [if_neg e]
        simp only [decide_eq_true_eq, V]
        have a1 := V_lo r (n * 10 + (c - 48).toNat)
        have a2 := V_hi r (n * 10 + (c - 48).toNat) hd2
        have b1 := V_lo s (n * 10 + (l - 48).toNat)
        have b2 := V_hi s (n * 10 + (l - 48).toNat) hl2
        rw [hlen] at a1 a2
        constructor
        · intro hlt
          have : (n * 10 + (c - 48).toNat + 1) * 10 ^ s.length ≤ (n * 10 + (l - 48).toNat) * 10 ^ s.length := Nat.mul_le_mul_right _ (by omega)
          omega
        · intro hle
          by_cases hgt : l < c
          · have : (n * 10 + (l - 48).toNat + 1) * 10 ^ s.length ≤ (n * 10 + (c - 48).toNat) * 10 ^ s.length := Nat.mul_le_mul_right _ (by omega)
            omega
          · omega

theorem dec_V (r : List Int) : ∀ (f n : Nat), isD r → 0 < n → decF (f + r.length) (V n r) = decF f n ++ r := by
  induction r with
  | nil => intro f n _ _; simp [V]
  | cons d r ih =>
    intro f n hd hn
    have hc := hd d (List.mem_cons_self ..)
    have h := ih (f + 1) (n * 10 + (d - 48).toNat) (fun x hx => hd x (List.mem_cons_of_mem _ hx)) (by omega)
    rw [V, show f + (d :: r).length = f + 1 + r.length by simp; omega, h, dec_step (by omega)]
    have e1 : (n * 10 + (d - 48).toNat) / 10 = n := by omega
    have e2 : 48 + (((n * 10 + (d - 48).toNat) % 10 : Nat) : Int) = d := by omega
    rw [e1, e2]
    simp

theorem V_lim (neg : Bool) : V 0 (lim neg) = if neg then 9223372036854775808 else 9223372036854775807 := by
  cases neg <;> decide +kernel
theorem lim_isD (neg : Bool) : isD (lim neg) := by
  cases neg <;> (unfold isD; decide)

theorem isD_iff (ds : List Int) : ds.all (fun c => decide (48 ≤ c ∧ c ≤ 57)) = true ↔ isD ds := by
  rw [List.all_eq_true]; simp [isD]

def L63 (neg : Bool) : Nat := if neg then 9223372036854775808 else 9223372036854775807

theorem fin_le (neg : Bool) (n : Nat) (h : n ≤ L63 neg) : fin64 neg (some n) = (if neg then -(n : Int) else (n : Int), true) := by
  cases neg
  · exact fin_pos_ok (by simp only [L63] at h; simp at h; omega)
  · exact fin_neg_ok (by simp only [L63] at h; simp at h; omega)
theorem fin_gt (neg : Bool) (n : Nat) (h : ¬ n ≤ L63 neg) : fin64 neg (some n) = (0, false) := by
  cases neg
  · exact fin_pos_over (by simp only [L63] at h; simp at h; omega)
  · exact fin_neg_over (by simp only [L63] at h; simp at h; omega)

theorem small_V (neg : Bool) (ds : List Int) (hd : isD ds) (h : ds.length < 19) : V 0 ds ≤ L63 neg := by
  have := V_hi ds 0 hd
  have h2 : 10 ^ ds.length ≤ 10 ^ 18 := Nat.pow_le_pow_right (by omega) (by omega)
  have h3 : 9223372036854775807 ≤ L63 neg := by cases neg <;> simp [L63]
  omega
theorem great_V (neg : Bool) (c : Int) (r : List Int) (hc : 49 ≤ c) (h : 19 ≤ r.length) : ¬ V 0 (c :: r) ≤ L63 neg := by
  have := V_lo r (0 * 10 + (c - 48).toNat)
  have h2 : 10 ^ 19 ≤ 10 ^ r.length := Nat.pow_le_pow_right (by omega) h
  have h3 : L63 neg ≤ 9223372036854775808 := by cases neg <;> simp [L63]
  have h4 : 1 * 10 ^ r.length ≤ (0 * 10 + (c - 48).toNat) * 10 ^ r.length := Nat.mul_le_mul_right _ (by omega)
  rw [V]
  omega

/-- What a canonical text is: its value lies within the limit, and prints as the text. -/
theorem canon_body (neg : Bool) (ds : List Int) :
    (body64 neg ds).2 = canonB neg ds ∧ ((body64 neg ds).2 = false → (body64 neg ds).1 = 0) ∧
    ((body64 neg ds).2 = true → (body64 neg ds).1 = (if neg then -((V 0 ds : Nat) : Int) else ((V 0 ds : Nat) : Int)) ∧ dec (V 0 ds) = ds ∧ (neg = true → 0 < V 0 ds) ∧ V 0 ds ≤ L63 neg) := by
  by_cases hf : canonB neg ds = false ∧ body64 neg ds = (0, false)
  · rw [hf.1, hf.2]; simp
  cases ds with
  | nil => exact absurd ⟨by simp [canonB], by simp [body64]⟩ hf
  | cons c r =>
    by_cases hd : isD (c :: r)
    · have hc := hd c (List.mem_cons_self ..)
      have hrun := run_V (c :: r) 0 hd (by omega)
      have hall := (isD_iff _).2 hd
      by_cases h48 : c = 48
      · subst h48
        by_cases hs : r = [] ∧ neg = false
        · obtain ⟨rfl, rfl⟩ := hs
          refine ⟨by decide, by decide, fun _ => ⟨by decide, by decide, by simp, by decide⟩⟩
        · refine absurd ⟨?_, ?_⟩ hf
          · unfold canonB
            rw [if_neg (by simp), if_neg (by rw [hall]; simp), if_pos (by simp)]
            cases r with
            | nil => simp at hs; simp [hs]
            | cons => simp
          · unfold body64
            rw [if_pos]
            right
            refine ⟨by simp, ?_⟩
            cases r with
            | nil => right; simpa using hs
            | cons => left; simp
      · have hcan : canonB neg (c :: r) = decide (V 0 (c :: r) ≤ L63 neg) := by
          unfold canonB
          rw [if_neg (by simp), if_neg (by rw [hall]; simp), if_neg (by simpa using h48)]
          by_cases h19 : (c :: r).length = 19
          · rw [if_pos h19, Bool.eq_iff_iff, cmp_V (c :: r) (lim neg) 0 hd (lim_isD neg) h19, V_lim, decide_eq_true_eq]
            exact Iff.rfl
          · rw [if_neg h19]
            by_cases hlt : (c :: r).length < 19
            · rw [decide_eq_true hlt, decide_eq_true (small_V neg _ hd hlt)]
            · rw [decide_eq_false hlt, decide_eq_false (great_V neg c r (by omega) (by simp at h19 hlt; omega))]
        have hbody : body64 neg (c :: r) = if V 0 (c :: r) ≤ L63 neg then (if neg then -((V 0 (c :: r) : Nat) : Int) else ((V 0 (c :: r) : Nat) : Int), true) else (0, false) := by
          unfold body64
          rw [if_neg (by rintro (h | h); simp at h; exact h48 (by simpa using h.1)), hrun]
          have h3 : L63 neg ≤ 9223372036854775808 := by cases neg <;> simp [L63]
          by_cases hle : V 0 (c :: r) ≤ L63 neg
          · rw [if_pos (by omega), if_pos hle, fin_le neg _ hle]
          · rw [if_neg hle]
            split
            · exact fin_gt neg _ hle
            · rfl
        by_cases hle : V 0 (c :: r) ≤ L63 neg
        · rw [hbody, hcan, if_pos hle, decide_eq_true hle]
          refine ⟨rfl, by simp, fun _ => ⟨rfl, ?_, fun _ => ?_, hle⟩⟩
          · have hlen : ¬ 19 ≤ r.length := fun h => great_V neg c r (by omega) h hle
            have := dec_V r (20 - r.length) (0 * 10 + (c - 48).toNat) (fun x hx => hd x (List.mem_cons_of_mem _ hx)) (by omega)
            rw [show 20 - r.length + r.length = 20 by omega] at this
            rw [dec, V, this, dec_small (by omega) (by omega)]
            have e : 48 + ((0 * 10 + (c - 48).toNat : Nat) : Int) = c := by omega
            rw [e]; rfl
          · rw [V]
            have := V_ge r (0 * 10 + (c - 48).toNat)
            omega
        · exact absurd ⟨by rw [hcan, decide_eq_false hle], by rw [hbody, if_neg hle]⟩ hf
    · refine absurd ⟨?_, ?_⟩ hf
      · unfold canonB
        rw [if_neg (by simp), if_pos]
        rw [← Bool.not_eq_true, isD_iff]; exact hd
      · unfold body64
        split
        · rfl
        · rw [run_not _ _ hd]; rfl

theorem canon_pint (zs : List Int) : (pint zs).2 = canon zs ∧ ((pint zs).2 = false → (pint zs).1 = 0) ∧ ((pint zs).2 = true → fmt64 (pint zs).1 = zs ∧ -9223372036854775808 ≤ (pint zs).1 ∧ (pint zs).1 ≤ 9223372036854775807) := by
  unfold pint canon
  by_cases h : zs.head? = some 45
  · rw [if_pos h, if_pos h]
    obtain ⟨h1, h2, h3⟩ := canon_body true zs.tail
    refine ⟨h1, h2, fun ht => ?_⟩
    obtain ⟨e1, e2, e3, e4⟩ := h3 ht
    have e3' := e3 rfl
    simp only [L63, if_true] at e4
    rw [e1]
    refine ⟨?_, by simp; omega, by simp⟩
    unfold fmt64
    rw [if_pos (by simp; omega)]
    have : (-(if true = true then -((V 0 zs.tail : Nat) : Int) else ((V 0 zs.tail : Nat) : Int))).toNat = V 0 zs.tail := by simp
    rw [this, e2]
    cases zs with
    | nil => simp at h
    | cons z r => simp at h; subst h; rfl
  · rw [if_neg h, if_neg h]
    obtain ⟨h1, h2, h3⟩ := canon_body false zs
    refine ⟨h1, h2, fun ht => ?_⟩
    obtain ⟨e1, e2, _, e4⟩ := h3 ht
    simp [L63] at e4
    rw [e1]
    refine ⟨?_, by simp, by simp; omega⟩
    unfold fmt64
    rw [if_neg (by simp)]
    have : (if false = true then -((V 0 zs : Nat) : Int) else ((V 0 zs : Nat) : Int)).toNat = V 0 zs := by simp
    rw [this, e2]

end Go.Proofs.Qxb6603819a
