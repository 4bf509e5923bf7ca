/-
  What the walks of this seat share: a slice of strings that can be read.
-/
import Derived.Test.Qxb6604160aRows
import Derived.WalkKit
import Derived.WalkSpells
import Derived.Deep.QuietTactic
import Derived.BigQuiet
namespace Go.Proofs.Qxb6604160a
open Go.RowKit

theorem Try.info9 : (Try.prog.info? 9).map (fun i => (i.zero, i.size, i.bytes)) = some (some (.string ByteArray.empty), 1, 16) := by kernel_rfl

/-- The slice with address a and length len reads as the strings ss. -/
structure RdS (w : World) (a : Option Addr) (len : Nat) (ss : List ByteArray) : Prop where
  hlen : ss.length = len
  small : ∀ i, (ss.getD i ByteArray.empty).size ≤ 9223372036854775807
  cells : 0 < len → ∃ b off, a = some ⟨b, off, none⟩ ∧ b < w.heap.size ∧ ∀ i, i < len → w.cell? ⟨b, off + i, none⟩ = some (.string (ss.getD i ByteArray.empty))
  nil : a = none → len = 0
  max : len ≤ 9223372036854775807

theorem hid {p : Prop} (h : p) : Hid p := h

/-- It answers a bool and changes nothing. -/
def SomeBool (w : World) (e : Ending) (w' : World) : Prop := ∃ p, e = .returned (.bool p) ∧ w' = w

set_option maxHeartbeats 400000 in
theorem zz10 (a : Option Addr) (len cap : Nat) (ss : List ByteArray) (w : World) (h : RdS w a len ss) :
    Calls Try.prog 10 #[.slice a len cap] w (SomeBool w) := by
  have hm := h.max
  by_cases h1 : len ≤ 1048576
  · go_enter Try.func10, Try.ntmps10
    go_wp2
    go_loop [3, 4] (fun z i => ∃ k : Nat, ∃ t : Int, k ≤ len ∧ i = .int .i64 k ∧ z = .int .i64 t ∧ 0 ≤ t ∧ t ≤ 1048576) (fun _ i => len - (intOf i).toNat)
    case atStart => exact ⟨0, len, Nat.zero_le _, rfl, by simp, by omega, by omega⟩
    case round =>
      obtain ⟨k, t, hk, rfl, rfl, ht0, ht1⟩ := hrel
      by_cases hlt : k < len
      · obtain ⟨b, off, rfl, _, hc⟩ := h.cells (by omega)
        have hck := hc k hlt
        have hs := h.small k
        generalize ss.getD k ByteArray.empty = s at *
        clear hc
        by_cases h2 : s.size ≤ 1048576
        · by_cases h3 : t + s.size ≤ 1048576
          · go_wp2
            go_round
            case rel => exact ⟨k + 1, t + s.size, by omega, by go_num, rfl, by omega, by omega⟩
            case measure => simp [intOf]; omega
          · go_wp2
            go_ret
            exact ⟨false, rfl, rfl⟩
        · go_wp2
          go_ret
          exact ⟨false, rfl, rfl⟩
      · go_wp2
        go_ret
        exact ⟨true, rfl, rfl⟩
  · go_enter Try.func10, Try.ntmps10
    go_wp2
    go_ret
    exact ⟨false, rfl, rfl⟩

set_option maxHeartbeats 400000 in
theorem nonNil_some (x : Addr) (len cap : Nat) (w : World) :
    Calls Try.prog 14 #[.slice (some x) len cap] w fun e w' => e = .returned (.slice (some x) len cap) ∧ w' = w := by
  have hq := fun w x => Lib.run_eql_slice_nil (P := Try.prog) w 28 9 x len cap 0 0 Try.underlying28
  go_enter Try.func14, Try.ntmps14
  go_wp2
  go_ret
  exact ⟨rfl, rfl⟩
set_option maxHeartbeats 400000 in
theorem nonNil_nil (w : World) :
    Calls Try.prog 14 #[.slice none 0 0] w fun e w' => e = .returned (.slice (some ⟨w.heap.size, 0, none⟩) 0 0) ∧ w' = w.alloc (.cells #[] 9) := by
  have hq := fun w => Lib.run_eql_slice_nil (P := Try.prog) w 28 9 none 0 0 0 0 Try.underlying28
  go_enter Try.func14, Try.ntmps14
  go_wp2
  go_ret
  exact ⟨rfl, rfl⟩
set_option maxHeartbeats 400000 in
theorem zznonNil_some (x : Addr) (len cap : Nat) (w : World) :
    Calls Try.prog 11 #[.slice (some x) len cap] w fun e w' => e = .returned (.slice (some x) len cap) ∧ w' = w := by
  go_enter Try.func11, Try.ntmps11
  go_wp2_with fail
  refine (nonNil_some x len cap w).mono ?_
  rintro e w' ⟨rfl, rfl⟩
  go_wp2
  go_ret
  exact ⟨rfl, rfl⟩
set_option maxHeartbeats 400000 in
theorem zznonNil_nil (w : World) :
    Calls Try.prog 11 #[.slice none 0 0] w fun e w' => e = .returned (.slice (some ⟨w.heap.size, 0, none⟩) 0 0) ∧ w' = w.alloc (.cells #[] 9) := by
  go_enter Try.func11, Try.ntmps11
  go_wp2_with fail
  refine (nonNil_nil w).mono ?_
  rintro e w' ⟨rfl, rfl⟩
  go_wp2
  go_ret
  exact ⟨rfl, rfl⟩

end Go.Proofs.Qxb6604160a
