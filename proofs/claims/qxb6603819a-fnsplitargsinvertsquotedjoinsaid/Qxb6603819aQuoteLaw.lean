/-
  THE PLAIN LAW: what 'qbody' writes 'adq' reads back.
-/
import Derived.Test.Qxb6603819aQuote
namespace Go.Proofs.Qxb6603819a
open Go.RowKit

theorem hexd_ok {v : Int} (u : Bool) (h0 : 0 ≤ v) (h1 : v ≤ 15) : hexb (hexd v u) = true ∧ hexv (hexd v u) = v ∧ 0 ≤ hexd v u ∧ hexd v u ≤ 255 := by
  unfold hexd
  by_cases h : v < 10
  · rw [if_pos h]
    refine ⟨decide_eq_true (by omega), ?_, by omega, by omega⟩
    unfold hexv; rw [if_neg (by omega), if_neg (by omega)]; omega
  · rw [if_neg h]
    cases u with
    | true =>
      rw [if_pos rfl]
      refine ⟨decide_eq_true (by omega), ?_, by omega, by omega⟩
      unfold hexv; rw [if_neg (by omega), if_pos (by omega)]; omega
    | false =>
      rw [if_neg (by simp)]
      refine ⟨decide_eq_true (by omega), ?_, by omega, by omega⟩
      unfold hexv; rw [if_pos (by omega)]; omega

theorem adq_qc {c : Int} (h0 : 0 ≤ c) (h1 : c ≤ 255) (r : List Int) : adq (qc c ++ r) = shift [c] (qc c).length (adq r) := by
  unfold qc
  by_cases q1 : c = 34
  · subst q1; rw [if_pos rfl]; exact adq_esc r (by omega)
  rw [if_neg q1]
  by_cases q2 : c = 92
  · subst q2; rw [if_pos rfl]; exact adq_esc r (by omega)
  rw [if_neg q2]
  by_cases q3 : c = 10
  · subst q3; rw [if_pos rfl]; exact adq_esc r (by omega)
  rw [if_neg q3]
  by_cases q4 : c = 9
  · subst q4; rw [if_pos rfl]; exact adq_esc r (by omega)
  rw [if_neg q4]
  split
  · exact adq_plain r q1 q2
  · obtain ⟨a1, a2, _⟩ := hexd_ok (up c) (v := c / 16) (by omega) (by omega)
    obtain ⟨b1, b2, _⟩ := hexd_ok (up c) (v := c % 16) (by omega) (by omega)
    have := adq_hex r a1 b1
    rw [a2, b2, show c / 16 * 16 + c % 16 = c by omega] at this
    exact this

theorem qc_b8 {c : Int} (h0 : 0 ≤ c) (h1 : c ≤ 255) : B8 (qc c) := by
  obtain ⟨_, _, a1, a2⟩ := hexd_ok (up c) (v := c / 16) (by omega) (by omega)
  obtain ⟨_, _, b1, b2⟩ := hexd_ok (up c) (v := c % 16) (by omega) (by omega)
  intro z hz
  unfold qc at hz
  repeat' split at hz
  all_goals
    simp at hz
    omega
theorem qc_len (c : Int) : (qc c).length ≤ 4 := by
  unfold qc
  repeat' split
  all_goals simp

theorem adq_qs (p : List Int) (h : B8 p) (r : List Int) : adq (qs p ++ 34 :: r) = some (p, (qs p).length + 1) := by
  induction p with
  | nil => exact adq_close r
  | cons c p ih =>
    have hc := h c (by simp)
    have ih := ih (fun z hz => h z (by simp [hz]))
    have e : qs (c :: p) = qc c ++ qs p := by simp [qs]
    rw [e, List.append_assoc, adq_qc hc.1 hc.2, ih]
    simp [shift, Nat.add_assoc]

theorem adq_qbody (p : List Int) (h : B8 p) (r : List Int) : adq (qbody p ++ r) = some (p, (qbody p).length) := by
  have := adq_qs p h r
  simp only [qbody, List.append_assoc, List.length_append]
  simpa using this
theorem qs_b8 (p : List Int) (h : B8 p) : B8 (qs p) := by
  intro z hz
  obtain ⟨c, hc, hz⟩ := List.mem_flatMap.1 hz
  exact qc_b8 (h c hc).1 (h c hc).2 z hz
theorem qbody_b8 (p : List Int) (h : B8 p) : B8 (qbody p) := by
  intro z hz
  rcases List.mem_append.1 hz with h1 | h1
  · exact qs_b8 p h z h1
  · simp at h1; omega
theorem qs_len (p : List Int) : (qs p).length ≤ 4 * p.length := by
  induction p with
  | nil => simp [qs]
  | cons c p ih =>
    have := qc_len c
    have e : qs (c :: p) = qc c ++ qs p := by simp [qs]
    rw [e]; simp; omega
theorem qbody_len (p : List Int) : (qbody p).length ≤ 4 * p.length + 1 := by
  have := qs_len p
  simp [qbody]; omega

end Go.Proofs.Qxb6603819a
