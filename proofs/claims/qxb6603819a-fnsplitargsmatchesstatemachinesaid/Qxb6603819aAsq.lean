/-
  'appendSingleQuoted' walked: it computes 'asq'.
-/
import Derived.Test.Qxb6603819aAdq
namespace Go.Proofs.Qxb6603819a
open Go.RowKit

/-- The text of a single-quoted string, its opening quote read. -/
def asq : List Int → Option (List Int × Nat)
  | [] => none
  | c :: r =>
    if c = 39 then some ([], 1) else
    match r with
    | [] => none
    | d :: r1 => if c = 92 ∧ d = 39 then shift [39] 2 (asq r1) else shift [c] 1 (asq (d :: r1))

theorem asq_nil : asq [] = none := by unfold asq; rfl
theorem asq_close (r : List Int) : asq (39 :: r) = some ([], 1) := by rw [asq.eq_def]; simp
theorem asq_esc (r : List Int) : asq (92 :: 39 :: r) = shift [39] 2 (asq r) := by rw [asq.eq_def]; simp
theorem asq_plain {c : Int} (r : List Int) (h : c ≠ 39) (h2 : c = 92 → r.head? ≠ some 39) : asq (c :: r) = shift [c] 1 (asq r) := by
  rw [asq.eq_def]
  match r, h2 with
  | [], _ => simp [h, asq_nil, shift]
  | d :: r1, h2 =>
    have : ¬ (c = 92 ∧ d = 39) := fun ⟨a, b⟩ => h2 a (by simp [b])
    simp [h, this]

set_option maxRecDepth 100000 in
set_option maxHeartbeats 1000000 in
theorem asq_walk (B : Nat) (v0 : Value) (xs : List Int) (a : Option Addr) (n c : Nat) (zs : List Int) (w : World) (hown : Own B w v0 xs) (hB : B ≤ w.heap.size) (hrd : Rd w a n zs)
    (hold : ∀ x, a = some x → 0 < n → x.block < w.heap.size ∧ some x.block ≠ v0.ownBlock) (hm : xs.length + n ≤ 100000000) :
    Calls Try.prog 28 #[v0, .slice a n c] w (QPost B v0 xs w (asq zs)) := by
  obtain ⟨i0, hi, hz0, hz1, hz2⟩ := info_parts Try.info5
  have HL : Hid (zs.length = n) := hrd.hlen
  go_enter Try.func28, Try.ntmps28
  go_wp2
  go_loopw [0, 7] (fun v i wr => ∃ k : Nat, ∃ acc : List Int, k ≤ n ∧ i = .int .i64 k ∧ QRel B v0 xs zs w asq k v wr acc) (fun _ i _ => n - (intOf i).toNat)
  case atStart => exact ⟨0, [], Nat.zero_le _, rfl, by simpa using hown, Gr.refl _ _, by simp, by simp, by rw [shift_nil]; rfl⟩
  case round =>
    obtain ⟨k, acc, hk, rfl, R⟩ := hrel
    by_cases hlt : k < n
    · obtain ⟨b, off, rfl, hc⟩ := (R.gr.rd hrd hold).cells (by omega)
      have h8 := hrd.b8
      have hck := hc k hlt
      have hbk := h8.at k
      simp at hck
      by_cases hq : zs[k]?.getD 0 = 39
      · have hE : (zs[k]?.getD 0 == 39) = true := by simp [hq]
        have HV : Hid (asq (zs.drop k) = some ([], 1)) := by rw [Hid, dropc zs k (by rw [HL.out]; exact hlt), hq, asq_close]
        clear hq hc
        go_wp2
        go_ret3
        exact R.done HV.out
      · have hE : (zs[k]?.getD 0 == 39) = false := by simp [hq]
        have hB2 := R.gr.grown.size
        have hlen := R.len
        by_cases hb : zs[k]?.getD 0 = 92
        · have hE2 : (zs[k]?.getD 0 == 92) = true := by simp [hb]
          by_cases h1n : k + 1 < n
          · have hc1 := hc (k + 1) h1n
            have bb1 := h8.at (k + 1)
            simp at hc1
            by_cases hd : zs[k + 1]?.getD 0 = 39
            · have hx : (zs[k + 1]?.getD 0 == 39) = true := by simp [hd]
              have HV : Hid (asq (zs.drop k) = shift [39] 2 (asq (zs.drop (k + 2)))) := by rw [Hid, dropc zs k (by rw [HL.out]; exact hlt), hb, dropc zs (k + 1) (by rw [HL.out]; omega), hd, asq_esc]
              clear hq hb hd hc
              go_wp2_with (first | (at_builtin; refine wpList_append_own_at _ rfl _ _ 22 rfl B 5 i0 (.int .u8 0) 1 1 Try.underlying22 hi hz0 hz1 hz2 rfl (by decide) _ _ _ rfl (R.own.alloc _) ⟨wr.heap.size, 0, none⟩ 1 1 [.int .u8 (39)] rfl rfl (cell_one_new _ _ _) ?c2 ?c3 ?c4 ?c5 ?_))
              case c2 => first | rfl | (intro u hu; simp at hu; subst hu; rfl)
              case c3 => first | (simp [maxLen]; omega) | (unfold maxLen; omega)
              case c4 => first | (simp; omega) | omega
              case c5 => first | (simp; omega) | omega
              intro v' w1 hown' hgrow hnil hat
              have R' := hid (R.put (by omega) HV.out hown' hgrow hnil (by simpa using hat))
              clear hown' hgrow hnil hat R
              go_wp2
              go_roundw
              case rel => exact ⟨k + 2, _, by omega, by go_num, R'.out⟩
              case measure => simp [intOf]; omega
            · have hx : (zs[k + 1]?.getD 0 == 39) = false := by simp [hd]
              have HV : Hid (asq (zs.drop k) = shift [zs[k]?.getD 0] 1 (asq (zs.drop (k + 1)))) := by rw [Hid, dropc zs k (by rw [HL.out]; exact hlt), asq_plain _ hq (fun _ => by rw [dropc zs (k + 1) (by rw [HL.out]; omega)]; simpa using hd)]
              clear hq hb hd hc
              go_wp2_with (first | (at_builtin; refine wpList_append_own_at _ rfl _ _ 22 rfl B 5 i0 (.int .u8 0) 1 1 Try.underlying22 hi hz0 hz1 hz2 rfl (by decide) _ _ _ rfl (R.own.alloc _) ⟨wr.heap.size, 0, none⟩ 1 1 [.int .u8 (zs[k]?.getD 0)] rfl rfl (cell_one_new _ _ _) ?c2 ?c3 ?c4 ?c5 ?_))
              case c2 => first | rfl | (intro u hu; simp at hu; subst hu; rfl)
              case c3 => first | (simp [maxLen]; omega) | (unfold maxLen; omega)
              case c4 => first | (simp; omega) | omega
              case c5 => first | (simp; omega) | omega
              intro v' w1 hown' hgrow hnil hat
              have R' := hid (R.put (by omega) HV.out hown' hgrow hnil (by simpa using hat))
              clear hown' hgrow hnil hat R
              go_wp2
              go_roundw
              case rel => exact ⟨k + 1, _, by omega, by go_num, R'.out⟩
              case measure => simp [intOf]; omega
          · have HV : Hid (asq (zs.drop k) = shift [zs[k]?.getD 0] 1 (asq (zs.drop (k + 1)))) := by rw [Hid, dropc zs k (by rw [HL.out]; exact hlt), asq_plain _ hq (fun _ => by rw [List.drop_eq_nil_of_le (by rw [HL.out]; omega)]; simp)]
            clear hq hb hc
            go_wp2_with (first | (at_builtin; refine wpList_append_own_at _ rfl _ _ 22 rfl B 5 i0 (.int .u8 0) 1 1 Try.underlying22 hi hz0 hz1 hz2 rfl (by decide) _ _ _ rfl (R.own.alloc _) ⟨wr.heap.size, 0, none⟩ 1 1 [.int .u8 (zs[k]?.getD 0)] rfl rfl (cell_one_new _ _ _) ?c2 ?c3 ?c4 ?c5 ?_))
            case c2 => first | rfl | (intro u hu; simp at hu; subst hu; rfl)
            case c3 => first | (simp [maxLen]; omega) | (unfold maxLen; omega)
            case c4 => first | (simp; omega) | omega
            case c5 => first | (simp; omega) | omega
            intro v' w1 hown' hgrow hnil hat
            have R' := hid (R.put (by omega) HV.out hown' hgrow hnil (by simpa using hat))
            clear hown' hgrow hnil hat R
            go_wp2
            go_roundw
            case rel => exact ⟨k + 1, _, by omega, by go_num, R'.out⟩
            case measure => simp [intOf]; omega
        · have hE2 : (zs[k]?.getD 0 == 92) = false := by simp [hb]
          have HV : Hid (asq (zs.drop k) = shift [zs[k]?.getD 0] 1 (asq (zs.drop (k + 1)))) := by rw [Hid, dropc zs k (by rw [HL.out]; exact hlt), asq_plain _ hq (fun h => absurd h hb)]
          clear hq hb hc
          go_wp2_with (first | (at_builtin; refine wpList_append_own_at _ rfl _ _ 22 rfl B 5 i0 (.int .u8 0) 1 1 Try.underlying22 hi hz0 hz1 hz2 rfl (by decide) _ _ _ rfl (R.own.alloc _) ⟨wr.heap.size, 0, none⟩ 1 1 [.int .u8 (zs[k]?.getD 0)] rfl rfl (cell_one_new _ _ _) ?c2 ?c3 ?c4 ?c5 ?_))
          case c2 => first | rfl | (intro u hu; simp at hu; subst hu; rfl)
          case c3 => first | (simp [maxLen]; omega) | (unfold maxLen; omega)
          case c4 => first | (simp; omega) | omega
          case c5 => first | (simp; omega) | omega
          intro v' w1 hown' hgrow hnil hat
          have R' := hid (R.put (by omega) HV.out hown' hgrow hnil (by simpa using hat))
          clear hown' hgrow hnil hat R
          go_wp2
          go_roundw
          case rel => exact ⟨k + 1, _, by omega, by go_num, R'.out⟩
          case measure => simp [intOf]; omega
    · have HV : Hid (asq (zs.drop k) = none) := by rw [Hid, List.drop_eq_nil_of_le (by rw [HL.out]; omega), asq_nil]
      go_wp2
      go_ret3
      exact R.fail HV.out

end Go.Proofs.Qxb6603819a
