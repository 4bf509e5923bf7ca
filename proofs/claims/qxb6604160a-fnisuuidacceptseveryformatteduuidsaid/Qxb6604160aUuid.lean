/-
  'store.IsUUID' and 'uuidNibble' walked; what a formatted UUID is.
-/
import Derived.Test.Qxb6604160aBase
namespace Go.Proofs.Qxb6604160a
open Go.RowKit

theorem Try.info5 : (Try.prog.info? 5).map (fun i => (i.zero, i.size, i.bytes)) = some (some (.int .u8 0), 1, 1) := by kernel_rfl

def hexc (c : Int) : Prop := (48 ≤ c ∧ c ≤ 57) ∨ (97 ≤ c ∧ c ≤ 102) ∨ (65 ≤ c ∧ c ≤ 70)
/-- What may stand at place i of a UUID's text. -/
def good (i : Nat) (c : Int) : Prop := if i = 8 ∨ i = 13 ∨ i = 18 ∨ i = 23 then c = 45 else hexc c
def nib (v : Int) (up : Bool) : Int := if v < 10 then 48 + v else if up then 55 + v else 87 + v

theorem nib_ok {v : Int} (u : Bool) (h0 : 0 ≤ v) (h1 : v ≤ 15) : hexc (nib v u) ∧ 0 ≤ nib v u ∧ nib v u ≤ 255 := by
  unfold nib hexc
  cases u <;> simp <;> split <;> omega

set_option maxHeartbeats 400000 in
theorem nib_any (v : Int) (up : Bool) (w : World) (h0 : 0 ≤ v) (h1 : v ≤ 15) : Calls Try.prog 9 #[.int .u8 v, .bool up] w fun e w' => e = .returned (.int .u8 (nib v up)) ∧ w' = w := by
  by_cases h : v < 10
  · have e : nib v up = 48 + v := by unfold nib; rw [if_pos h]
    rw [e]; clear e
    go_enter Try.func9, Try.ntmps9
    go_wp2
    go_ret
    exact ⟨rfl, rfl⟩
  · cases up with
    | true =>
      have e : nib v true = 65 + v - 10 := by unfold nib; rw [if_neg h, if_pos rfl]; omega
      rw [e]; clear e
      go_enter Try.func9, Try.ntmps9
      go_wp2
      go_ret
      exact ⟨rfl, rfl⟩
    | false =>
      have e : nib v false = 97 + v - 10 := by unfold nib; rw [if_neg h, if_neg (by simp)]; omega
      rw [e]; clear e
      go_enter Try.func9, Try.ntmps9
      go_wp2
      go_ret
      exact ⟨rfl, rfl⟩

set_option maxHeartbeats 400000 in
theorem isuuid_no (s : ByteArray) (w : World) (hs : s.size ≠ 36) (_hm : s.size ≤ 1000) : Calls Try.prog 7 #[.string s] w fun e w' => e = .returned (.bool false) ∧ w' = w := by
  have hE : ((s.size : Int) == 36) = false := by simp; omega
  go_enter Try.func7, Try.ntmps7
  go_wp2
  refine wp_loop_rounds 1 ?_
  rw [rounds_succ]
  go_wp2
  go_ret
  exact ⟨rfl, rfl⟩

set_option maxRecDepth 100000 in
set_option maxHeartbeats 1000000 in
theorem isuuid_yes (s : ByteArray) (w : World) (hs : s.size = 36) (hg : ∀ i (h : i < s.size), good i (s[i].toNat : Int)) : Calls Try.prog 7 #[.string s] w fun e w' => e = .returned (.bool true) ∧ w' = w := by
  have hE : ((s.size : Int) == 36) = true := by simp; omega
  have HS := hid hs
  have hs1 : s.size ≤ 36 := by omega
  clear hs
  go_enter Try.func7, Try.ntmps7
  go_wp2
  go_loop [3, 4] (fun o i => ∃ k : Nat, k ≤ s.size ∧ i = .int .i64 k ∧ o = .bool true) (fun _ i => s.size - (intOf i).toNat)
  case atStart => exact ⟨0, by omega, rfl, rfl⟩
  case round =>
    obtain ⟨k, hk, rfl, rfl⟩ := hrel
    by_cases hlt : k < s.size
    · have hgk := hg k hlt
      clear hg
      by_cases hd : k = 8 ∨ k = 13 ∨ k = 18 ∨ k = 23
      · rw [good, if_pos hd] at hgk
        have hE2 : (((s[k].toNat : Nat) : Int) == 45) = true := by simp [hgk]
        clear hgk
        rcases hd with rfl | rfl | rfl | rfl
        all_goals
          go_wp2
          go_round
          case rel => exact ⟨_, hlt, by go_num, rfl⟩
          case measure => simp [intOf]; omega
      · rw [good, if_neg hd] at hgk
        have k1 : ((k : Int) == 8) = false := by simp; omega
        have k2 : ((k : Int) == 13) = false := by simp; omega
        have k3 : ((k : Int) == 18) = false := by simp; omega
        have k4 : ((k : Int) == 23) = false := by simp; omega
        clear hd
        rcases hgk with hgk | hgk | hgk
        all_goals
          go_wp2
          go_round
          case rel => exact ⟨k + 1, hlt, by go_num, by simp; try omega⟩
          case measure => simp [intOf]; omega
    · go_wp2
      go_ret
      exact ⟨rfl, rfl⟩

end Go.Proofs.Qxb6604160a
