/-
  'appendQuotedBody' walked: it appends 'qbody'.
-/
import Derived.Test.Qxb6603819aDq
import Derived.Deep.AppendLies
namespace Go.Proofs.Qxb6603819a
open Go.RowKit

def alnum (c : Int) : Prop := (97 ≤ c ∧ c ≤ 122) ∨ (65 ≤ c ∧ c ≤ 90) ∨ (48 ≤ c ∧ c ≤ 57)
def up (c : Int) : Bool := bits .and .u8 c 1 == 1
def qc (c : Int) : List Int :=
  if c = 34 then [92, 34] else if c = 92 then [92, 92] else if c = 10 then [92, 110] else if c = 9 then [92, 116] else
  if (97 ≤ c ∧ c ≤ 122) ∨ (65 ≤ c ∧ c ≤ 90) ∨ (48 ≤ c ∧ c ≤ 57) then [c] else [92, 120, hexd (c / 16) (up c), hexd (c % 16) (up c)]
def qs (p : List Int) : List Int := p.flatMap qc
def qbody (p : List Int) : List Int := qs p ++ [34]

theorem hidQ {p : Prop} (h : p) : Hid p := h

structure ARel (B : Nat) (v0 : Value) (xs p : List Int) (w : World) (k : Nat) (v : Value) (wr : World) : Prop where
  own : Own B wr v (xs ++ qs (p.take k))
  gr : Gr w v0 wr v
  len : (qs (p.take k)).length ≤ 4 * k

theorem ARel.put {B : Nat} {v0 : Value} {xs p : List Int} {w : World} {k : Nat} {v : Value} {wr : World} (R : ARel B v0 xs p w k v wr) (hk : k < p.length) {d : Int} {ys : List Int} (hd : p[k]?.getD 0 = d) (hq : qc d = ys) (hl : ys.length ≤ 4) {o : Obj} {v' : Value} {w' : World}
    (hown : w'.ownsRow B 5 1 v' (xs.length + (qs (p.take k)).length + ys.length) (xs.map (Value.int .u8) ++ ((qs (p.take k)).map (Value.int .u8) ++ ys.map (Value.int .u8)))) (hg : (wr.alloc o).grownBy w' v.ownBlock)
    (hat : v'.ownBlock = v.ownBlock ∨ v'.ownBlock = some (wr.heap.size + 1)) : ARel B v0 xs p w (k + 1) v' w' := by
  rw [← hd] at hq
  have e : qs (p.take (k + 1)) = qs (p.take k) ++ ys := by
    rw [List.take_succ_eq_append_getElem hk, qs, List.flatMap_append]
    rw [List.getElem?_eq_getElem hk] at hq
    simp only [Option.getD_some] at hq
    simp [qs, hq]
  have := R.len
  refine ⟨?_, (R.gr.alloc o).step hg ?_, by rw [e]; simp; omega⟩
  · rw [e]; unfold Own; simpa [Nat.add_assoc] using hown
  · rcases hat with e | e
    · exact .inl e
    · exact .inr ⟨_, e, by simp⟩

theorem ARel.fin {B : Nat} {v0 : Value} {xs p : List Int} {w : World} {k : Nat} {v : Value} {wr : World} (R : ARel B v0 xs p w k v wr) (hk : p.take k = p) {o : Obj} {v' : Value} {w' : World}
    (hown : w'.ownsRow B 5 1 v' (xs.length + (qs (p.take k)).length + 1) (xs.map (Value.int .u8) ++ ((qs (p.take k)).map (Value.int .u8) ++ [.int .u8 34]))) (hg : (wr.alloc o).grownBy w' v.ownBlock)
    (hat : v'.ownBlock = v.ownBlock ∨ v'.ownBlock = some (wr.heap.size + 1)) : Own B w' v' (xs ++ qbody p) ∧ Gr w v0 w' v' := by
  rw [hk] at hown
  refine ⟨?_, (R.gr.alloc o).step hg ?_⟩
  · unfold Own qbody; simpa [Nat.add_assoc] using hown
  · rcases hat with e | e
    · exact .inl e
    · exact .inr ⟨_, e, by simp⟩

set_option maxRecDepth 100000 in
set_option maxHeartbeats 2000000 in
theorem quote_walk (B : Nat) (v0 : Value) (xs : List Int) (a : Option Addr) (n c : Nat) (p : List Int) (w : World) (hown : Own B w v0 xs) (hB : B ≤ w.heap.size) (hrd : Rd w a n p)
    (hold : ∀ x, a = some x → 0 < n → x.block < w.heap.size ∧ some x.block ≠ v0.ownBlock) (hm : xs.length + 4 * n ≤ 100000000) :
    Calls Try.prog 21 #[v0, .slice a n c] w fun e w' => ∃ v', e = .returned v' ∧ Own B w' v' (xs ++ qbody p) ∧ Gr w v0 w' v' := by
  obtain ⟨i0, hi, hz0, hz1, hz2⟩ := info_parts Try.info5
  have HL : Hid (p.length = n) := hrd.hlen
  go_enter Try.func21, Try.ntmps21
  go_wp2
  go_loopw [0, 5] (fun v i wr => ∃ k : Nat, k ≤ n ∧ i = .int .i64 k ∧ ARel B v0 xs p w k v wr) (fun _ i _ => n - (intOf i).toNat)
  case atStart => exact ⟨0, Nat.zero_le _, rfl, by simpa [qs] using hown, Gr.refl _ _, by simp [qs]⟩
  case round =>
    obtain ⟨k, hk, rfl, R⟩ := hrel
    have hB2 := R.gr.grown.size
    have hlen := R.len
    by_cases hlt : k < n
    · obtain ⟨b, off, rfl, hc⟩ := (R.gr.rd hrd hold).cells (by omega)
      have hck := hc k hlt
      have hbk := hrd.b8.at k
      have hkl := hidQ (show k < p.length by rw [HL.out]; exact hlt)
      simp at hck
      clear hc
      generalize hd : p[k]?.getD 0 = d at *
      have HD := hidQ hd
      clear hd
      by_cases q1 : d = 34
      · have hE1 : (d == 34) = true := by simp [q1]
        have HQ : Hid (qc d = [92, 34]) := by rw [Hid, qc, if_pos q1]
        go_wp2_with (first | (at_builtin; refine wpList_append_own_at _ rfl _ _ 22 rfl B 5 i0 (.int .u8 0) 1 1 Try.underlying22 hi hz0 hz1 hz2 rfl (by decide) _ _ _ rfl (R.own.alloc _) ⟨wr.heap.size, 0, none⟩ 2 2 [.int .u8 92, .int .u8 34] rfl rfl (World.news_of_block (cs := #[.int .u8 92, .int .u8 34]) (t := 5) (fr := (0, 0)) (heap_alloc_new wr _)) ?c2 ?c3 ?c4 ?c5 ?_))
        case c2 => first | rfl | (intro u hu; simp at hu; subst hu; rfl) | (simp [Value.oneCell'])
        case c3 => first | (simp [maxLen]; omega) | (unfold maxLen; omega)
        case c4 => first | (simp; omega) | omega
        case c5 => first | (simp; omega) | omega
        intro v' w1 hown' hgrow _ hat
        have R' := hidQ (R.put hkl.out HD.out HQ.out (by simp) (by simpa using hown') hgrow (by simpa using hat))
        clear hown' hgrow hat R
        go_wp2
        go_roundw
        case rel => exact ⟨k + 1, by omega, by go_num, R'.out⟩
        case measure => simp [intOf]; omega
      have hE1 : (d == 34) = false := by simp [q1]
      by_cases q2 : d = 92
      · have hE2 : (d == 92) = true := by simp [q2]
        have HQ : Hid (qc d = [92, 92]) := by rw [Hid, qc, if_neg q1, if_pos q2]
        go_wp2_with (first | (at_builtin; refine wpList_append_own_at _ rfl _ _ 22 rfl B 5 i0 (.int .u8 0) 1 1 Try.underlying22 hi hz0 hz1 hz2 rfl (by decide) _ _ _ rfl (R.own.alloc _) ⟨wr.heap.size, 0, none⟩ 2 2 [.int .u8 92, .int .u8 92] rfl rfl (World.news_of_block (cs := #[.int .u8 92, .int .u8 92]) (t := 5) (fr := (0, 0)) (heap_alloc_new wr _)) ?c2 ?c3 ?c4 ?c5 ?_))
        case c2 => first | rfl | (intro u hu; simp at hu; subst hu; rfl) | (simp [Value.oneCell'])
        case c3 => first | (simp [maxLen]; omega) | (unfold maxLen; omega)
        case c4 => first | (simp; omega) | omega
        case c5 => first | (simp; omega) | omega
        intro v' w1 hown' hgrow _ hat
        have R' := hidQ (R.put hkl.out HD.out HQ.out (by simp) (by simpa using hown') hgrow (by simpa using hat))
        clear hown' hgrow hat R
        go_wp2
        go_roundw
        case rel => exact ⟨k + 1, by omega, by go_num, R'.out⟩
        case measure => simp [intOf]; omega
      have hE2 : (d == 92) = false := by simp [q2]
      by_cases q3 : d = 10
      · have hE3 : (d == 10) = true := by simp [q3]
        have HQ : Hid (qc d = [92, 110]) := by rw [Hid, qc, if_neg q1, if_neg q2, if_pos q3]
        go_wp2_with (first | (at_builtin; refine wpList_append_own_at _ rfl _ _ 22 rfl B 5 i0 (.int .u8 0) 1 1 Try.underlying22 hi hz0 hz1 hz2 rfl (by decide) _ _ _ rfl (R.own.alloc _) ⟨wr.heap.size, 0, none⟩ 2 2 [.int .u8 92, .int .u8 110] rfl rfl (World.news_of_block (cs := #[.int .u8 92, .int .u8 110]) (t := 5) (fr := (0, 0)) (heap_alloc_new wr _)) ?c2 ?c3 ?c4 ?c5 ?_))
        case c2 => first | rfl | (intro u hu; simp at hu; subst hu; rfl) | (simp [Value.oneCell'])
        case c3 => first | (simp [maxLen]; omega) | (unfold maxLen; omega)
        case c4 => first | (simp; omega) | omega
        case c5 => first | (simp; omega) | omega
        intro v' w1 hown' hgrow _ hat
        have R' := hidQ (R.put hkl.out HD.out HQ.out (by simp) (by simpa using hown') hgrow (by simpa using hat))
        clear hown' hgrow hat R
        go_wp2
        go_roundw
        case rel => exact ⟨k + 1, by omega, by go_num, R'.out⟩
        case measure => simp [intOf]; omega
      have hE3 : (d == 10) = false := by simp [q3]
      by_cases q4 : d = 9
      · have hE4 : (d == 9) = true := by simp [q4]
        have HQ : Hid (qc d = [92, 116]) := by rw [Hid, qc, if_neg q1, if_neg q2, if_neg q3, if_pos q4]
        go_wp2_with (first | (at_builtin; refine wpList_append_own_at _ rfl _ _ 22 rfl B 5 i0 (.int .u8 0) 1 1 Try.underlying22 hi hz0 hz1 hz2 rfl (by decide) _ _ _ rfl (R.own.alloc _) ⟨wr.heap.size, 0, none⟩ 2 2 [.int .u8 92, .int .u8 116] rfl rfl (World.news_of_block (cs := #[.int .u8 92, .int .u8 116]) (t := 5) (fr := (0, 0)) (heap_alloc_new wr _)) ?c2 ?c3 ?c4 ?c5 ?_))
        case c2 => first | rfl | (intro u hu; simp at hu; subst hu; rfl) | (simp [Value.oneCell'])
        case c3 => first | (simp [maxLen]; omega) | (unfold maxLen; omega)
        case c4 => first | (simp; omega) | omega
        case c5 => first | (simp; omega) | omega
        intro v' w1 hown' hgrow _ hat
        have R' := hidQ (R.put hkl.out HD.out HQ.out (by simp) (by simpa using hown') hgrow (by simpa using hat))
        clear hown' hgrow hat R
        go_wp2
        go_roundw
        case rel => exact ⟨k + 1, by omega, by go_num, R'.out⟩
        case measure => simp [intOf]; omega
      have hE4 : (d == 9) = false := by simp [q4]
      by_cases q5 : (97 ≤ d ∧ d ≤ 122) ∨ (65 ≤ d ∧ d ≤ 90) ∨ (48 ≤ d ∧ d ≤ 57)
      · have HQ : Hid (qc d = [d]) := by rw [Hid, qc, if_neg q1, if_neg q2, if_neg q3, if_neg q4, if_pos q5]
        clear q1 q2 q3 q4
        rcases q5 with q5 | q5 | q5
        all_goals
          go_wp2_with (first | (at_builtin; refine wpList_append_own_at _ rfl _ _ 22 rfl B 5 i0 (.int .u8 0) 1 1 Try.underlying22 hi hz0 hz1 hz2 rfl (by decide) _ _ _ rfl (R.own.alloc _) ⟨wr.heap.size, 0, none⟩ 1 1 [.int .u8 d] rfl rfl (cell_one_new _ _ _) ?c2 ?c3 ?c4 ?c5 ?_))
          case c2 => first | rfl | (intro u hu; simp at hu; subst hu; rfl) | (simp [Value.oneCell'])
          case c3 => first | (simp [maxLen]; omega) | (unfold maxLen; omega)
          case c4 => first | (simp; omega) | omega
          case c5 => first | (simp; omega) | omega
          intro v' w1 hown' hgrow _ hat
          have R' := hidQ (R.put hkl.out HD.out HQ.out (by simp) (by simpa using hown') hgrow (by simpa using hat))
          clear hown' hgrow hat R
          go_wp2
          go_roundw
          case rel => exact ⟨k + 1, by omega, by go_num, R'.out⟩
          case measure => simp [intOf]; omega
      · have HQ : Hid (qc d = [92, 120, hexd (d / 16) (bits .and .u8 d 1 == 1), hexd (d % 16) (bits .and .u8 d 1 == 1)]) := by rw [Hid, qc, if_neg q1, if_neg q2, if_neg q3, if_neg q4, if_neg q5]; rfl
        have q6 : (d < 48) ∨ (57 < d ∧ d < 65) ∨ (90 < d ∧ d < 97) ∨ (122 < d) := by omega
        clear q1 q2 q3 q4 q5
        rcases q6 with q6 | q6 | q6 | q6
        all_goals
          go_wp2_with (first | (at_builtin; refine wpList_append_own_at _ rfl _ _ 22 rfl B 5 i0 (.int .u8 0) 1 1 Try.underlying22 hi hz0 hz1 hz2 rfl (by decide) _ _ _ rfl (R.own.alloc _) ⟨wr.heap.size, 0, none⟩ 4 4 [.int .u8 92, .int .u8 120, .int .u8 (hexd (d / 16) (bits .and .u8 d 1 == 1)), .int .u8 (hexd (d % 16) (bits .and .u8 d 1 == 1))] rfl rfl (World.news_of_block (cs := #[.int .u8 92, .int .u8 120, .int .u8 (hexd (d / 16) (bits .and .u8 d 1 == 1)), .int .u8 (hexd (d % 16) (bits .and .u8 d 1 == 1))]) (t := 5) (fr := (0, 0)) (heap_alloc_new wr _)) ?c2 ?c3 ?c4 ?c5 ?_) | (go_at_call 32; refine (hexDigit_any _ _ _ (by omega) (by omega)).mono ?_; rintro e w' ⟨rfl, hw⟩; have hw := hw.symm; subst hw))
          case c2 => first | rfl | (intro u hu; simp at hu; subst hu; rfl) | (simp [Value.oneCell'])
          case c3 => first | (simp [maxLen]; omega) | (unfold maxLen; omega)
          case c4 => first | (simp; omega) | omega
          case c5 => first | (simp; omega) | omega
          intro v' w1 hown' hgrow _ hat
          have R' := hidQ (R.put hkl.out HD.out HQ.out (by simp) (by simpa using hown') hgrow (by simpa using hat))
          clear hown' hgrow hat R
          go_wp2
          go_roundw
          case rel => exact ⟨k + 1, by omega, by go_num, R'.out⟩
          case measure => simp [intOf]; omega
    · have HK := hidQ (show p.take k = p from List.take_of_length_le (by rw [HL.out]; omega))
      go_wp2_with (first | (at_builtin; refine wpList_append_own_at _ rfl _ _ 22 rfl B 5 i0 (.int .u8 0) 1 1 Try.underlying22 hi hz0 hz1 hz2 rfl (by decide) _ _ _ rfl (R.own.alloc _) ⟨wr.heap.size, 0, none⟩ 1 1 [.int .u8 34] rfl rfl (cell_one_new _ _ _) ?c2 ?c3 ?c4 ?c5 ?_))
      case c2 => first | rfl | (intro u hu; simp at hu; subst hu; rfl) | (simp [Value.oneCell'])
      case c3 => first | (simp [maxLen]; omega) | (unfold maxLen; omega)
      case c4 => first | (simp; omega) | omega
      case c5 => first | (simp; omega) | omega
      intro v' w1 hown' hgrow _ hat
      have P := hidQ (R.fin HK.out (by simpa using hown') hgrow (by simpa using hat))
      clear hown' hgrow hat R
      go_wp2
      go_ret
      exact ⟨v', rfl, P.out⟩

end Go.Proofs.Qxb6603819a
