/-
  The leaves, walked: 'isHex', 'hexValue', 'hexVal', 'namedEscape', 'hexDigit', 'isSpace', 'white'.
-/
import Derived.Test.Qxb6603819aHelp
namespace Go.Proofs.Qxb6603819a
open Go.RowKit

def hexb (c : Int) : Bool := decide ((48 ≤ c ∧ c ≤ 57) ∨ (97 ≤ c ∧ c ≤ 102) ∨ (65 ≤ c ∧ c ≤ 70))
def hexv (c : Int) : Int := if 97 ≤ c then c - 87 else if 65 ≤ c then c - 55 else c - 48
def unesc (c : Int) : Int := if c = 110 then 10 else if c = 114 then 13 else if c = 116 then 9 else if c = 97 then 7 else if c = 98 then 8 else c
def spc (c : Int) : Bool := decide (c = 32 ∨ (9 ≤ c ∧ c ≤ 13))
def hexd (v : Int) (up : Bool) : Int := if v < 10 then 48 + v else if up then 55 + v else 87 + v

theorem hexb_cases (c : Int) : (hexb c = true ∧ ((48 ≤ c ∧ c ≤ 57) ∨ (97 ≤ c ∧ c ≤ 102) ∨ (65 ≤ c ∧ c ≤ 70))) ∨ (hexb c = false ∧ (c < 48 ∨ (57 < c ∧ c < 65) ∨ (70 < c ∧ c < 97) ∨ 102 < c)) := by
  by_cases h : (48 ≤ c ∧ c ≤ 57) ∨ (97 ≤ c ∧ c ≤ 102) ∨ (65 ≤ c ∧ c ≤ 70)
  · exact .inl ⟨decide_eq_true h, h⟩
  · exact .inr ⟨decide_eq_false h, by omega⟩
theorem hexv_rng {c : Int} (h : hexb c = true) : 0 ≤ hexv c ∧ hexv c ≤ 15 := by
  have := of_decide_eq_true h
  unfold hexv
  split
  · omega
  · split <;> omega

theorem ret_b {p q : Bool} (h : p = q) : Ending.returned (.bool p) = .returned (.bool q) := by rw [h]

set_option maxHeartbeats 400000 in
theorem isHex_any (c : Int) (w : World) (h0 : 0 ≤ c) (h1 : c ≤ 255) : Calls Try.prog 33 #[.int .u8 c] w fun e w' => e = .returned (.bool (hexb c)) ∧ w' = w := by
  rcases hexb_cases c with ⟨e, h | h | h⟩ | ⟨e, h | h | h | h⟩
  all_goals
    rw [e]
    clear e
    go_enter Try.func33, Try.ntmps33
    go_wp2
    go_ret
    refine ⟨ret_b ?_, rfl⟩
    show _ = _
    first | rfl | (simp; omega)

theorem ret_int {k : IntKind} {a b : Int} (h : a = b) : Ending.returned (.int k a) = .returned (.int k b) := by rw [h]

set_option maxHeartbeats 400000 in
theorem hexValue_any (c : Int) (w : World) (h : hexb c = true) : Calls Try.prog 34 #[.int .u8 c] w fun e w' => e = .returned (.int .u8 (hexv c)) ∧ w' = w := by
  rcases of_decide_eq_true h with h | h | h
  · have e : hexv c = c - 48 := by unfold hexv; rw [if_neg (by omega), if_neg (by omega)]
    rw [e]
    clear e
    go_enter Try.func34, Try.ntmps34
    go_wp2
    go_ret
    exact ⟨rfl, rfl⟩
  · have e : hexv c = c - 97 + 10 := by unfold hexv; rw [if_pos (by omega)]; omega
    rw [e]
    clear e
    go_enter Try.func34, Try.ntmps34
    go_wp2
    go_ret
    exact ⟨rfl, rfl⟩
  · have e : hexv c = c - 65 + 10 := by unfold hexv; rw [if_neg (by omega), if_pos (by omega)]; omega
    rw [e]
    clear e
    go_enter Try.func34, Try.ntmps34
    go_wp2
    go_ret
    exact ⟨rfl, rfl⟩

def hexVal' (c : Int) : Int := if hexb c = true then hexv c else -1

set_option maxHeartbeats 400000 in
theorem hexVal_any (c : Int) (w : World) (h0 : 0 ≤ c) (h1 : c ≤ 255) : Calls Try.prog 36 #[.int .u8 c] w fun e w' => e = .returned (.int .i64 (hexVal' c)) ∧ w' = w := by
  rcases hexb_cases c with ⟨eb, h | h | h⟩ | ⟨eb, h⟩
  · have e : hexVal' c = c - 48 := by unfold hexVal' hexv; rw [if_pos eb, if_neg (by omega), if_neg (by omega)]
    rw [e]
    clear e eb
    go_enter Try.func36, Try.ntmps36
    go_wp2
    go_ret
    exact ⟨rfl, rfl⟩
  · have e : hexVal' c = c - 97 + 10 := by unfold hexVal' hexv; rw [if_pos eb, if_pos (by omega)]; omega
    rw [e]
    clear e eb
    go_enter Try.func36, Try.ntmps36
    go_wp2
    go_ret
    exact ⟨rfl, rfl⟩
  · have e : hexVal' c = c - 65 + 10 := by unfold hexVal' hexv; rw [if_pos eb, if_neg (by omega), if_pos (by omega)]; omega
    rw [e]
    clear e eb
    go_enter Try.func36, Try.ntmps36
    go_wp2
    go_ret
    exact ⟨rfl, rfl⟩
  · have e : hexVal' c = -1 := by unfold hexVal'; rw [eb]; rfl
    rw [e]
    clear e eb
    rcases h with h | h | h | h
    all_goals
      go_enter Try.func36, Try.ntmps36
      go_wp2
      go_ret
      exact ⟨rfl, rfl⟩

theorem unesc_cases (c : Int) : ((c == 110) = true ∧ unesc c = 10) ∨ ((c == 110) = false ∧ (c == 114) = true ∧ unesc c = 13) ∨ ((c == 110) = false ∧ (c == 114) = false ∧ (c == 116) = true ∧ unesc c = 9) ∨
    ((c == 110) = false ∧ (c == 114) = false ∧ (c == 116) = false ∧ (c == 97) = true ∧ unesc c = 7) ∨ ((c == 110) = false ∧ (c == 114) = false ∧ (c == 116) = false ∧ (c == 97) = false ∧ (c == 98) = true ∧ unesc c = 8) ∨
    ((c == 110) = false ∧ (c == 114) = false ∧ (c == 116) = false ∧ (c == 97) = false ∧ (c == 98) = false ∧ unesc c = c) := by
  unfold unesc
  by_cases h1 : c = 110
  · left; simp [h1]
  by_cases h2 : c = 114
  · right; left; simp [h2]
  by_cases h3 : c = 116
  · right; right; left; simp [h3]
  by_cases h4 : c = 97
  · right; right; right; left; simp [h4]
  by_cases h5 : c = 98
  · right; right; right; right; left; simp [h5]
  · right; right; right; right; right; simp [h1, h2, h3, h4, h5]

set_option maxHeartbeats 400000 in
theorem named_any (c : Int) (w : World) : Calls Try.prog 35 #[.int .u8 c] w fun e w' => e = .returned (.int .u8 (unesc c)) ∧ w' = w := by
  rcases unesc_cases c with ⟨h1, e⟩ | ⟨h1, h2, e⟩ | ⟨h1, h2, h3, e⟩ | ⟨h1, h2, h3, h4, e⟩ | ⟨h1, h2, h3, h4, h5, e⟩ | ⟨h1, h2, h3, h4, h5, e⟩
  all_goals
    rw [e]
    clear e
    go_enter Try.func35, Try.ntmps35
    go_wp2
    go_ret
    exact ⟨rfl, rfl⟩

theorem spc_cases (c : Int) : (spc c = true ∧ (c = 32 ∨ c = 9 ∨ c = 10 ∨ c = 13 ∨ c = 11 ∨ c = 12)) ∨ (spc c = false ∧ (c == 32) = false ∧ (c == 9) = false ∧ (c == 10) = false ∧ (c == 13) = false ∧ (c == 11) = false ∧ (c == 12) = false) := by
  by_cases h : c = 32 ∨ (9 ≤ c ∧ c ≤ 13)
  · exact .inl ⟨decide_eq_true h, by omega⟩
  · exact .inr ⟨decide_eq_false h, by simp; omega⟩

set_option maxHeartbeats 400000 in
theorem isSpace_any (c : Int) (w : World) : Calls Try.prog 26 #[.int .u8 c] w fun e w' => e = .returned (.bool (spc c)) ∧ w' = w := by
  rcases spc_cases c with ⟨e, h | h | h | h | h | h⟩ | ⟨e, h1, h2, h3, h4, h5, h6⟩
  · rw [e]; clear e; subst h; go_enter Try.func26, Try.ntmps26; go_wp2; go_ret; exact ⟨rfl, rfl⟩
  · rw [e]; clear e; subst h; go_enter Try.func26, Try.ntmps26; go_wp2; go_ret; exact ⟨rfl, rfl⟩
  · rw [e]; clear e; subst h; go_enter Try.func26, Try.ntmps26; go_wp2; go_ret; exact ⟨rfl, rfl⟩
  · rw [e]; clear e; subst h; go_enter Try.func26, Try.ntmps26; go_wp2; go_ret; exact ⟨rfl, rfl⟩
  · rw [e]; clear e; subst h; go_enter Try.func26, Try.ntmps26; go_wp2; go_ret; exact ⟨rfl, rfl⟩
  · rw [e]; clear e; subst h; go_enter Try.func26, Try.ntmps26; go_wp2; go_ret; exact ⟨rfl, rfl⟩
  · rw [e]; clear e; go_enter Try.func26, Try.ntmps26; go_wp2; go_ret; exact ⟨rfl, rfl⟩

set_option maxHeartbeats 400000 in
theorem white_any (c : Int) (w : World) : Calls Try.prog 29 #[.int .u8 c] w fun e w' => e = .returned (.bool (spc c)) ∧ w' = w := by
  rcases spc_cases c with ⟨e, h | h | h | h | h | h⟩ | ⟨e, h1, h2, h3, h4, h5, h6⟩
  · rw [e]; clear e; subst h; go_enter Try.func29, Try.ntmps29; go_wp2; go_ret; exact ⟨rfl, rfl⟩
  · rw [e]; clear e; subst h; go_enter Try.func29, Try.ntmps29; go_wp2; go_ret; exact ⟨rfl, rfl⟩
  · rw [e]; clear e; subst h; go_enter Try.func29, Try.ntmps29; go_wp2; go_ret; exact ⟨rfl, rfl⟩
  · rw [e]; clear e; subst h; go_enter Try.func29, Try.ntmps29; go_wp2; go_ret; exact ⟨rfl, rfl⟩
  · rw [e]; clear e; subst h; go_enter Try.func29, Try.ntmps29; go_wp2; go_ret; exact ⟨rfl, rfl⟩
  · rw [e]; clear e; subst h; go_enter Try.func29, Try.ntmps29; go_wp2; go_ret; exact ⟨rfl, rfl⟩
  · rw [e]; clear e; go_enter Try.func29, Try.ntmps29; go_wp2; go_ret; exact ⟨rfl, rfl⟩

set_option maxHeartbeats 400000 in
theorem hexDigit_any (v : Int) (up : Bool) (w : World) (h0 : 0 ≤ v) (h1 : v ≤ 15) : Calls Try.prog 32 #[.int .u8 v, .bool up] w fun e w' => e = .returned (.int .u8 (hexd v up)) ∧ w' = w := by
  by_cases h : v < 10
  · have e : hexd v up = 48 + v := by unfold hexd; rw [if_pos h]
    rw [e]; clear e
    go_enter Try.func32, Try.ntmps32
    go_wp2
    go_ret
    exact ⟨rfl, rfl⟩
  · cases up with
    | true =>
      have e : hexd v true = 65 + v - 10 := by unfold hexd; rw [if_neg h, if_pos rfl]; omega
      rw [e]; clear e
      go_enter Try.func32, Try.ntmps32
      go_wp2
      go_ret
      exact ⟨rfl, rfl⟩
    | false =>
      have e : hexd v false = 97 + v - 10 := by unfold hexd; rw [if_neg h, if_neg (by simp)]; omega
      rw [e]; clear e
      go_enter Try.func32, Try.ntmps32
      go_wp2
      go_ret
      exact ⟨rfl, rfl⟩

end Go.Proofs.Qxb6603819a
