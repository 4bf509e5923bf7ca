/-
  The one-pass machine's states, told by what they hold back ('pend').
-/
import Derived.Test.Qxb6603819aFeed
namespace Go.Proofs.Qxb6603819a
open Go.RowKit

def pend (st h : Int) : List Int := if st = 3 then [92] else if st = 4 then [92, 120] else if st = 5 then [92, 120, h] else []

/-- A double-quote state of the machine. -/
def DqSt (st h : Int) : Prop := st = 2 ∨ st = 3 ∨ st = 4 ∨ (st = 5 ∧ hexb h = true ∧ 0 ≤ h ∧ h ≤ 255)

theorem feed_any (B : Nat) (v0 : Value) (xs : List Int) (st h1 c : Int) (w : World) (hst : DqSt st h1) (hown : Own B w v0 xs) (hB : B ≤ w.heap.size) (hm : xs.length ≤ 100000000) (hc0 : 0 ≤ c) (hc1 : c ≤ 255) :
    Calls Try.prog 31 #[.int .i64 st, .int .u8 h1, v0, .int .u8 c] w (FPost B v0 xs w (feed st h1 c)) := by
  rcases hst with rfl | rfl | rfl | ⟨rfl, a, b, d⟩
  · exact feed_dq B v0 xs h1 c w hown hB hm hc0 hc1
  · exact feed_esc B v0 xs h1 c w hown hB hm hc0 hc1
  · exact feed_x B v0 xs h1 c w hown hB hm hc0 hc1
  · exact feed_xh B v0 xs h1 c w hown hB hm hc0 hc1 a b d

/-- What one feed does to what is still to be decoded. -/
structure FeedOk (st h1 c : Int) (r : List Int) (q : Int × Int × List Int × Bool × Bool) : Prop where
  state : DqSt q.1 q.2.1
  closed : q.2.2.2.2 = true → adq (pend st h1 ++ c :: r) = some ([], 1) ∧ pend st h1 = [] ∧ q.2.2.1 = [] ∧ q.2.2.2.1 = true
  used : q.2.2.2.2 = false → q.2.2.2.1 = true → adq (pend st h1 ++ c :: r) = shift q.2.2.1 ((pend st h1).length + 1 - (pend q.1 q.2.1).length) (adq (pend q.1 q.2.1 ++ r)) ∧ q.2.2.1.length + (pend q.1 q.2.1).length ≤ (pend st h1).length + 1
  kept : q.2.2.2.2 = false → q.2.2.2.1 = false → adq (pend st h1 ++ c :: r) = shift q.2.2.1 ((pend st h1).length - (pend q.1 q.2.1).length) (adq (pend q.1 q.2.1 ++ c :: r)) ∧ q.2.2.1.length + (pend q.1 q.2.1).length ≤ (pend st h1).length ∧ (st = 4 ∨ st = 5) ∧ q.1 = 2

theorem hex_ne {c : Int} (h : hexb c = true) : c ≠ 34 ∧ c ≠ 92 := by
  have := of_decide_eq_true h; omega

theorem feed_ok (st h1 c : Int) (r : List Int) (hst : DqSt st h1) (hc0 : 0 ≤ c) (hc1 : c ≤ 255) : FeedOk st h1 c r (feed st h1 c) := by
  rcases hst with rfl | rfl | rfl | ⟨rfl, a, b, d⟩
  · by_cases h : c = 34
    · subst h
      have e : feed 2 h1 34 = (2, h1, [], true, true) := by simp [feed]
      rw [e]
      exact ⟨.inl rfl, fun _ => ⟨by simp [pend, adq_close], by simp [pend], rfl, rfl⟩, fun h => by simp at h, fun h => by simp at h⟩
    · by_cases h' : c = 92
      · subst h'
        have e : feed 2 h1 92 = (3, h1, [], true, false) := by simp [feed]
        rw [e]
        exact ⟨.inr (.inl rfl), fun h => by simp at h, fun _ _ => ⟨by simp [pend, shift_nil], by simp [pend]⟩, fun _ h => by simp at h⟩
      · have e : feed 2 h1 c = (2, h1, [c], true, false) := by simp [feed, h, h']
        rw [e]
        exact ⟨.inl rfl, fun h => by simp at h, fun _ _ => ⟨by simp [pend, adq_plain r h h'], by simp [pend]⟩, fun _ h => by simp at h⟩
  · by_cases h : c = 120
    · subst h
      have e : feed 3 h1 120 = (4, h1, [], true, false) := by simp [feed]
      rw [e]
      exact ⟨.inr (.inr (.inl rfl)), fun h => by simp at h, fun _ _ => ⟨by simp [pend, shift_nil], by simp [pend]⟩, fun _ h => by simp at h⟩
    · have e : feed 3 h1 c = (2, h1, [unesc c], true, false) := by simp [feed, h]
      rw [e]
      exact ⟨.inl rfl, fun h => by simp at h, fun _ _ => ⟨by simp [pend, adq_esc r h], by simp [pend]⟩, fun _ h => by simp at h⟩
  · cases h : hexb c with
    | true =>
      have e : feed 4 h1 c = (5, c, [], true, false) := by simp [feed, h]
      rw [e]
      exact ⟨.inr (.inr (.inr ⟨rfl, h, hc0, hc1⟩)), fun h => by simp at h, fun _ _ => ⟨by simp [pend, shift_nil], by simp [pend]⟩, fun _ h => by simp at h⟩
    | false =>
      have e : feed 4 h1 c = (2, h1, [120], false, false) := by simp [feed, h]
      rw [e]
      refine ⟨.inl rfl, fun h => by simp at h, fun _ h => by simp at h, fun _ _ => ⟨?_, by simp [pend], .inl rfl, rfl⟩⟩
      simp only [pend]
      simp
      rw [adq_x]
      intro a1 a2 r2 hr hh
      simp at hr
      rw [hr.1] at h; rw [h] at hh; simp at hh
  · cases h : hexb c with
    | true =>
      have e : feed 5 h1 c = (2, h1, [hexv h1 * 16 + hexv c], true, false) := by simp [feed, h]
      rw [e]
      exact ⟨.inl rfl, fun h => by simp at h, fun _ _ => ⟨by simp [pend, adq_hex r a h], by simp [pend]⟩, fun _ h => by simp at h⟩
    | false =>
      have e : feed 5 h1 c = (2, h1, [120, h1], false, false) := by simp [feed, h]
      rw [e]
      refine ⟨.inl rfl, fun h => by simp at h, fun _ h => by simp at h, fun _ _ => ⟨?_, by simp [pend], .inr rfl, rfl⟩⟩
      simp only [pend]
      simp
      rw [adq_x, adq_plain _ (hex_ne a).1 (hex_ne a).2, shift_shift]
      · rfl
      · intro a1 a2 r2 hr hh
        simp at hr
        rw [hr.2.1] at h; rw [h] at hh; simp at hh

theorem pend_end (st h : Int) (hst : DqSt st h) : adq (pend st h) = none := by
  rcases hst with rfl | rfl | rfl | ⟨rfl, a, b, d⟩
  · simp [pend, adq_nil]
  · simp [pend, adq_last]
  · simp only [pend]; simp; rw [adq_x _ (fun _ _ _ h => by simp at h), adq_nil]; rfl
  · simp only [pend]; simp; rw [adq_x _ (fun _ _ _ h => by simp at h), adq_plain _ (hex_ne a).1 (hex_ne a).2, adq_nil]; rfl

end Go.Proofs.Qxb6603819a
