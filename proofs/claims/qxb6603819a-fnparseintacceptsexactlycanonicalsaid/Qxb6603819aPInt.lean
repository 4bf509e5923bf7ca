/-
  'resp.ParseInt' walked: it computes 'pint'.
-/
import Derived.Test.Qxb6603819aBase
namespace Go.Proofs.Qxb6603819a
open Go.RowKit

/-- The digits read from the left, in 64 bits. -/
def run64 (n : Nat) : List Int → Option Nat
  | [] => some n
  | c :: r => if c < 48 ∨ 57 < c then none else if 18446744073709551615 < n * 10 + (c - 48).toNat then none else run64 (n * 10 + (c - 48).toNat) r

def fin64 (neg : Bool) (o : Option Nat) : Int × Bool :=
  match o with
  | none => (0, false)
  | some n => if neg then (if 9223372036854775808 < n then (0, false) else (-(n : Int), true)) else (if 9223372036854775807 < n then (0, false) else ((n : Int), true))

def body64 (neg : Bool) (ds : List Int) : Int × Bool :=
  if ds.length = 0 ∨ (ds[0]?.getD 0 = 48 ∧ (1 < ds.length ∨ neg = true)) then (0, false) else fin64 neg (run64 0 ds)

def pint (zs : List Int) : Int × Bool := if zs.head? = some 45 then body64 true zs.tail else body64 false zs

theorem drop_cons (zs : List Int) (k : Nat) (h : k < zs.length) : zs.drop k = zs[k]?.getD 0 :: zs.drop (k + 1) := by
  rw [List.drop_eq_getElem_cons h, List.getElem?_eq_getElem h]; rfl

theorem run_bad {zs : List Int} {n k : Nat} (h : k < zs.length) (hb : zs[k]?.getD 0 < 48 ∨ 57 < zs[k]?.getD 0) : run64 n (zs.drop k) = none := by
  rw [drop_cons zs k h, run64, if_pos hb]
theorem run_over {zs : List Int} {n k : Nat} (h : k < zs.length) (h1 : 48 ≤ zs[k]?.getD 0 ∧ zs[k]?.getD 0 ≤ 57) (hb : (18446744073709551615 - (zs[k]?.getD 0 - 48)) / 10 < (n : Int)) : run64 n (zs.drop k) = none := by
  rw [drop_cons zs k h, run64, if_neg (by omega), if_pos (by omega)]
theorem run_step {zs : List Int} {n k : Nat} (h : k < zs.length) (h1 : 48 ≤ zs[k]?.getD 0 ∧ zs[k]?.getD 0 ≤ 57) (hb : (n : Int) ≤ (18446744073709551615 - (zs[k]?.getD 0 - 48)) / 10) :
    run64 n (zs.drop k) = run64 (n * 10 + (zs[k]?.getD 0 - 48).toNat) (zs.drop (k + 1)) := by
  rw [drop_cons zs k h, run64, if_neg (by omega), if_neg (by omega)]
theorem run_end {zs : List Int} {n k : Nat} (h : zs.length ≤ k) : run64 n (zs.drop k) = some n := by
  rw [List.drop_eq_nil_of_le h]; rfl
theorem fin_pos_over {n : Nat} (h : 9223372036854775807 < (n : Int)) : fin64 false (some n) = (0, false) := by
  show (if 9223372036854775807 < n then ((0 : Int), false) else ((n : Int), true)) = _
  rw [if_pos (by omega)]
theorem fin_pos_ok {n : Nat} (h : ¬ 9223372036854775807 < (n : Int)) : fin64 false (some n) = ((n : Int), true) := by
  show (if 9223372036854775807 < n then ((0 : Int), false) else ((n : Int), true)) = _
  rw [if_neg (by omega)]
theorem fin_neg_over {n : Nat} (h : 9223372036854775808 < (n : Int)) : fin64 true (some n) = (0, false) := by
  show (if 9223372036854775808 < n then ((0 : Int), false) else (-(n : Int), true)) = _
  rw [if_pos (by omega)]
theorem fin_neg_ok {n : Nat} (h : ¬ 9223372036854775808 < (n : Int)) : fin64 true (some n) = (-(n : Int), true) := by
  show (if 9223372036854775808 < n then ((0 : Int), false) else (-(n : Int), true)) = _
  rw [if_neg (by omega)]
theorem min_neg : wrap64 (-wrap64 ((9223372036854775808 : Nat) : Int)) = -((9223372036854775808 : Nat) : Int) := by unfold wrap64; omega
theorem ret_pair {x y : Int} {p q : Bool} (h : (x, p) = (y, q)) : Ending.returned (.tuple #[.int .i64 y, .bool q]) = .returned (.tuple #[.int .i64 x, .bool p]) := by
  simp only [Prod.mk.injEq] at h; rw [h.1, h.2]

set_option maxHeartbeats 400000 in
theorem parse_pos (a : Option Addr) (len cap : Nat) (zs : List Int) (w : World) (h : Rd w a len zs) (hm : len ≤ 1000000) (h0 : 0 < len) (hne : zs[0]?.getD 0 ≠ 45) :
    Calls Try.prog 11 #[.slice a len cap] w fun e w' => e = .returned (.tuple #[.int .i64 (body64 false zs).1, .bool (body64 false zs).2]) ∧ w' = w := by
  obtain ⟨b, off, rfl, hc⟩ := h.cells h0
  have hl := h.hlen
  have h8 := h.b8
  clear h
  have hc0 := hc 0 h0
  have hb0 := h8.at 0
  simp at hc0
  have hE : (zs[0]?.getD 0 == 45) = false := by simp [hne]
  have hlen0 : ((len : Int) == 0) = false := by simp; omega
  have hlen1 : (0 : Int) < len := by omega
  clear hne
  by_cases hz : zs[0]?.getD 0 = 48 ∧ 1 < len
  · have HB : Hid (body64 false zs = (0, false)) := by
      show body64 false zs = _
      rw [body64, if_pos (by right; exact ⟨hz.1, .inl (by omega)⟩)]
    have hE2 : (zs[0]?.getD 0 == 48) = true := by simp [hz]
    have hl1 : 1 < len := hz.2
    clear hz hl
    go_enter Try.func11, Try.ntmps11
    go_wp2
    go_ret2
    exact ⟨ret_pair HB.out, rfl⟩
  · have HB : Hid (body64 false zs = fin64 false (run64 0 zs)) := by
      show body64 false zs = _
      rw [body64, if_neg (by rintro (h | ⟨h1, h2 | h2⟩); exact absurd h (by omega); exact hz ⟨h1, by omega⟩; exact absurd h2 (by simp))]
    have hcase : (zs[0]?.getD 0 == 48) = false ∨ ((zs[0]?.getD 0 == 48) = true ∧ len ≤ 1) := by
      by_cases h48 : zs[0]?.getD 0 = 48
      · right; exact ⟨by simp [h48], by omega⟩
      · left; simp [h48]
    have HL : Hid (zs.length = len) := hl
    clear hz hl
    rcases hcase with hE2 | ⟨hE2, hl1⟩
    all_goals
      go_enter Try.func11, Try.ntmps11
      go_wp2
      go_loop [5, 40] (fun v i => ∃ k n : Nat, k ≤ len ∧ i = .int .i64 k ∧ v = .int .u64 n ∧ n ≤ 18446744073709551615 ∧ Hid (run64 0 zs = run64 n (zs.drop k))) (fun _ i => len - (intOf i).toNat)
      case atStart => exact ⟨0, 0, Nat.zero_le _, rfl, rfl, by omega, rfl⟩
      case round =>
        obtain ⟨k, n, hk, rfl, rfl, hn, HR⟩ := hrel
        by_cases hlt : k < len
        · have hck := hc k hlt
          have hbk := h8.at k
          simp at hck
          clear hc
          have hkl : Hid (k < zs.length) := by rw [Hid, HL.out]; exact hlt
          have hcases : (zs[k]?.getD 0 < 48) ∨ (57 < zs[k]?.getD 0) ∨ (48 ≤ zs[k]?.getD 0 ∧ zs[k]?.getD 0 ≤ 57) := by omega
          rcases hcases with h1 | h1 | h1
          · go_wp2
            go_ret2
            exact ⟨ret_pair (by rw [HB.out, HR.out, run_bad hkl.out (.inl h1)]; rfl), rfl⟩
          · go_wp2
            go_ret2
            exact ⟨ret_pair (by rw [HB.out, HR.out, run_bad hkl.out (.inr h1)]; rfl), rfl⟩
          · by_cases h2 : (18446744073709551615 - (zs[k]?.getD 0 - 48)) / 10 < (n : Int)
            · go_wp2
              go_ret2
              exact ⟨ret_pair (by rw [HB.out, HR.out, run_over hkl.out h1 (by omega)]; rfl), rfl⟩
            · go_wp2
              go_round
              case rel => exact ⟨k + 1, n * 10 + (zs[k]?.getD 0 - 48).toNat, by omega, by go_num, congrArg (Value.int .u64) (by omega), by omega, HR.out.trans (run_step hkl.out h1 (by omega))⟩
              case measure => simp [intOf]; omega
        · have hkl : Hid (zs.length ≤ k) := by rw [Hid, HL.out]; omega
          by_cases h2 : 9223372036854775807 < (n : Int)
          · go_wp2
            go_ret2
            exact ⟨ret_pair (by rw [HB.out, HR.out, run_end hkl.out, fin_pos_over (by omega)]), rfl⟩
          · go_wp2
            go_ret2
            exact ⟨ret_pair (by rw [HB.out, HR.out, run_end hkl.out, fin_pos_ok (by omega)]), rfl⟩

theorem parse_nil (a : Option Addr) (cap : Nat) (w : World) :
    Calls Try.prog 11 #[.slice a 0 cap] w fun e w' => e = .returned (.tuple #[.int .i64 0, .bool false]) ∧ w' = w := by
  go_enter Try.func11, Try.ntmps11
  go_wp2
  go_ret2
  exact ⟨rfl, rfl⟩

set_option maxHeartbeats 400000 in
theorem parse_minus (a : Option Addr) (cap : Nat) (zs : List Int) (w : World) (h : Rd w a 1 zs) (_hcap : 1 ≤ cap) (hne : zs[0]?.getD 0 = 45) :
    Calls Try.prog 11 #[.slice a 1 cap] w fun e w' => e = .returned (.tuple #[.int .i64 0, .bool false]) ∧ w' = w := by
  obtain ⟨b, off, rfl, hc⟩ := h.cells (by omega)
  have hc0 := hc 0 (by omega)
  simp at hc0
  have hE : (zs[0]?.getD 0 == 45) = true := by simp [hne]
  clear hne h
  go_enter Try.func11, Try.ntmps11
  go_wp2
  all_goals
    go_ret2
    exact ⟨rfl, rfl⟩

set_option maxHeartbeats 400000 in
theorem parse_neg (a : Option Addr) (len cap : Nat) (zs : List Int) (w : World) (h : Rd w a (len + 1) zs) (hcap : len + 1 ≤ cap) (hm : len ≤ 1000000) (h0 : 0 < len) (hne : zs[0]?.getD 0 = 45) :
    Calls Try.prog 11 #[.slice a (len + 1 : Nat) cap] w fun e w' => e = .returned (.tuple #[.int .i64 (body64 true zs.tail).1, .bool (body64 true zs.tail).2]) ∧ w' = w := by
  obtain ⟨b, off, rfl, hc⟩ := h.cells (by omega)
  have hc0 := hc 0 (by omega)
  simp at hc0
  have hE : (zs[0]?.getD 0 == 45) = true := by simp [hne]
  have hlen0 : ((len : Int) == 0) = false := by simp; omega
  have hlen1 : (0 : Int) < len := by omega
  obtain ⟨ds, hds⟩ : ∃ ds, ds = zs.tail := ⟨_, rfl⟩
  have hl : ds.length = len := by rw [hds, List.length_tail, h.hlen]; omega
  have h8 : B8 ds := fun z hz => h.b8 z (List.mem_of_mem_tail (hds ▸ hz))
  have hd : ∀ i, i < len → w.cell? ⟨b, off + 1 + i, none⟩ = some (.int .u8 (ds[i]?.getD 0)) := fun i hi => by
    have := hc (i + 1) (by omega)
    rw [show off + 1 + i = off + (i + 1) by omega, this, hds]
    simp [List.getElem?_tail]
  rw [← hds]
  have hd0 := hd 0 h0
  have hb0 := h8.at 0
  simp at hd0
  clear hne h hc hds
  by_cases hz : ds[0]?.getD 0 = 48
  · have HB : Hid (body64 true ds = (0, false)) := by
      show body64 true ds = _
      rw [body64, if_pos (by right; exact ⟨hz, .inr rfl⟩)]
    have hE2 : (ds[0]?.getD 0 == 48) = true := by simp [hz]
    clear hz hl
    by_cases hl1 : 1 < len
    all_goals
      go_enter Try.func11, Try.ntmps11
      go_wp2
      all_goals
        go_ret2
        exact ⟨ret_pair HB.out, rfl⟩
  · have HB : Hid (body64 true ds = fin64 true (run64 0 ds)) := by
      show body64 true ds = _
      rw [body64, if_neg (by rintro (h | h); exact absurd h (by omega); exact hz h.1)]
    have hE2 : (ds[0]?.getD 0 == 48) = false := by simp [hz]
    have HL : Hid (ds.length = len) := hl
    clear hz hl
    go_enter Try.func11, Try.ntmps11
    go_wp2
    go_loop [5, 40] (fun v i => ∃ k n : Nat, k ≤ len ∧ i = .int .i64 k ∧ v = .int .u64 n ∧ n ≤ 18446744073709551615 ∧ Hid (run64 0 ds = run64 n (ds.drop k))) (fun _ i => len - (intOf i).toNat)
    case atStart => exact ⟨0, 0, Nat.zero_le _, rfl, rfl, by omega, rfl⟩
    case round =>
      obtain ⟨k, n, hk, rfl, rfl, hn, HR⟩ := hrel
      by_cases hlt : k < len
      · have hck := hd k hlt
        have hbk := h8.at k
        clear hd
        have hkl : Hid (k < ds.length) := by rw [Hid, HL.out]; exact hlt
        have hcases : (ds[k]?.getD 0 < 48) ∨ (57 < ds[k]?.getD 0) ∨ (48 ≤ ds[k]?.getD 0 ∧ ds[k]?.getD 0 ≤ 57) := by omega
        rcases hcases with h1 | h1 | h1
        · go_wp2
          go_ret2
          exact ⟨ret_pair (by rw [HB.out, HR.out, run_bad hkl.out (.inl h1)]; rfl), rfl⟩
        · go_wp2
          go_ret2
          exact ⟨ret_pair (by rw [HB.out, HR.out, run_bad hkl.out (.inr h1)]; rfl), rfl⟩
        · by_cases h2 : (18446744073709551615 - (ds[k]?.getD 0 - 48)) / 10 < (n : Int)
          · go_wp2
            go_ret2
            exact ⟨ret_pair (by rw [HB.out, HR.out, run_over hkl.out h1 (by omega)]; rfl), rfl⟩
          · go_wp2
            go_round
            case rel => exact ⟨k + 1, n * 10 + (ds[k]?.getD 0 - 48).toNat, by omega, by go_num, congrArg (Value.int .u64) (by omega), by omega, HR.out.trans (run_step hkl.out h1 (by omega))⟩
            case measure => simp [intOf]; omega
      · have hkl : Hid (ds.length ≤ k) := by rw [Hid, HL.out]; omega
        by_cases h2 : 9223372036854775808 < (n : Int)
        · go_wp2
          go_ret2
          exact ⟨ret_pair (by rw [HB.out, HR.out, run_end hkl.out, fin_neg_over (by omega)]), rfl⟩
        · by_cases h3 : (n : Int) ≤ 9223372036854775807
          · go_wp2
            go_ret2
            exact ⟨ret_pair (by rw [HB.out, HR.out, run_end hkl.out, fin_neg_ok (by omega)]), rfl⟩
          · have h4 : Hid (n = 9223372036854775808) := by show n = _; omega
            go_wp2
            go_ret2
            exact ⟨ret_pair (by rw [HB.out, HR.out, run_end hkl.out, fin_neg_ok (by omega), h4.out, min_neg]), rfl⟩

/-- 'resp.ParseInt' computes 'pint', and only reads. -/
theorem parse_any (a : Option Addr) (len cap : Nat) (zs : List Int) (w : World) (h : Rd w a len zs) (hcap : len ≤ cap) (hm : len ≤ 1000000) :
    Calls Try.prog 11 #[.slice a len cap] w fun e w' => e = .returned (.tuple #[.int .i64 (pint zs).1, .bool (pint zs).2]) ∧ w' = w := by
  have hl := h.hlen
  match zs, h, hl with
  | [], h, hl => subst hl; exact parse_nil a cap w
  | z :: r, h, hl =>
    simp at hl
    subst hl
    by_cases hz : z = 45
    · subst hz
      have e : pint (45 :: r) = body64 true r := by simp [pint]
      rw [e]
      cases r with
      | nil => exact parse_minus a cap [45] w h hcap rfl
      | cons y q => exact parse_neg a (q.length + 1) cap (45 :: y :: q) w h hcap (by simp at hm; omega) (by omega) rfl
    · have e : pint (z :: r) = body64 false (z :: r) := by simp [pint, hz]
      rw [e]
      exact parse_pos a (r.length + 1) cap (z :: r) w h hm (by omega) (by simpa using hz)

end Go.Proofs.Qxb6603819a
