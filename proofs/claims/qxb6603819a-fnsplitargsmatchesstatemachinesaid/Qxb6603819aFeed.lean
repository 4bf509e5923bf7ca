/-
  'dqFeed' walked: one byte fed to the double-quote states.
-/
import Derived.Test.Qxb6603819aDq
import Derived.Deep.AppendLies
namespace Go.Proofs.Qxb6603819a
open Go.RowKit
set_option linter.unusedVariables false

/-- What 'dqFeed' answers: the next state, the held digit, what is appended, whether the byte is used, whether it closes. -/
def feed (st : Int) (h1 c : Int) : Int × Int × List Int × Bool × Bool :=
  if st = 3 then (if c = 120 then (4, h1, [], true, false) else (2, h1, [unesc c], true, false))
  else if st = 4 then (if hexb c = true then (5, c, [], true, false) else (2, h1, [120], false, false))
  else if st = 5 then (if hexb c = true then (2, h1, [hexv h1 * 16 + hexv c], true, false) else (2, h1, [120, h1], false, false))
  else if c = 34 then (2, h1, [], true, true) else if c = 92 then (3, h1, [], true, false) else (2, h1, [c], true, false)

/-- What one feed leaves. -/
def FPost (B : Nat) (v0 : Value) (xs : List Int) (w : World) (r : Int × Int × List Int × Bool × Bool) (e : Ending) (w' : World) : Prop :=
  ∃ v', e = .returned (.tuple #[.int .i64 r.1, .int .u8 r.2.1, v', .bool r.2.2.2.1, .bool r.2.2.2.2]) ∧ Own B w' v' (xs ++ r.2.2.1) ∧ Gr w v0 w' v' ∧ (v' = .slice none 0 0 ↔ v0 = .slice none 0 0 ∧ r.2.2.1 = [])

theorem fpost_same {B : Nat} {v0 : Value} {xs : List Int} {w : World} (hown : Own B w v0 xs) (a b : Int) (p q : Bool) : FPost B v0 xs w (a, b, [], p, q) (.returned (.tuple #[.int .i64 a, .int .u8 b, v0, .bool p, .bool q])) w :=
  ⟨v0, rfl, by simpa using hown, Gr.refl _ _, by simp⟩

theorem fpost_put {B : Nat} {v0 v' : Value} {xs : List Int} {w w' : World} {o : Obj} (d : Int) (a b : Int) (p q : Bool)
    (hown : w'.ownsRow B 5 1 v' (xs.length + 1) (xs.map (Value.int .u8) ++ [.int .u8 d])) (hg : (w.alloc o).grownBy w' v0.ownBlock) (hn : ¬ v' = .slice none 0 0)
    (hat : v'.ownBlock = v0.ownBlock ∨ v'.ownBlock = some (w.heap.size + 1)) : FPost B v0 xs w (a, b, [d], p, q) (.returned (.tuple #[.int .i64 a, .int .u8 b, v', .bool p, .bool q])) w' := by
  refine ⟨v', rfl, own_snoc (ys := [d]) hown, ((Gr.refl w v0).alloc o).step hg ?_, by simp [hn]⟩
  rcases hat with e | e
  · exact .inl e
  · exact .inr ⟨_, e, by simp⟩

theorem fpost_put2 {B : Nat} {v0 v' : Value} {xs : List Int} {w w' : World} {o : Obj} (d d2 : Int) (a b : Int) (p q : Bool)
    (hown : w'.ownsRow B 5 1 v' (xs.length + 2) (xs.map (Value.int .u8) ++ [.int .u8 d, .int .u8 d2])) (hg : (w.alloc o).grownBy w' v0.ownBlock) (hn : ¬ v' = .slice none 0 0)
    (hat : v'.ownBlock = v0.ownBlock ∨ v'.ownBlock = some (w.heap.size + 1)) : FPost B v0 xs w (a, b, [d, d2], p, q) (.returned (.tuple #[.int .i64 a, .int .u8 b, v', .bool p, .bool q])) w' := by
  refine ⟨v', rfl, own_snoc (ys := [d, d2]) hown, ((Gr.refl w v0).alloc o).step hg ?_, by simp [hn]⟩
  rcases hat with e | e
  · exact .inl e
  · exact .inr ⟨_, e, by simp⟩

theorem results_tmp5 {fn : Func} {t u v x y : Tmp} (h : fn.results = #[.tmp t, .tmp u, .tmp v, .tmp x, .tmp y]) (tmps : Array Value) (P : Program) (w : World) :
    (results fn tmps).run P w = .ok (.tuple #[tmps.getD t undef, tmps.getD u undef, tmps.getD v undef, tmps.getD x undef, tmps.getD y undef]) w := by
  simp [results, h]
theorem hidF {p : Prop} (h : p) : Hid p := h

set_option maxRecDepth 100000 in
set_option maxHeartbeats 1000000 in
theorem feed_dq (B : Nat) (v0 : Value) (xs : List Int) (h1 c : Int) (w : World) (hown : Own B w v0 xs) (hB : B ≤ w.heap.size) (hm : xs.length ≤ 100000000) (hc0 : 0 ≤ c) (hc1 : c ≤ 255) :
    Calls Try.prog 31 #[.int .i64 2, .int .u8 h1, v0, .int .u8 c] w (FPost B v0 xs w (feed 2 h1 c)) := by
  obtain ⟨i0, hi, hz0, hz1, hz2⟩ := info_parts Try.info5
  by_cases h : c = 34
  · skip
    have k1 : (c == 34) = true := by simp [h]
    have e : feed 2 h1 c = (2, h1, [], true, true) := by simp [feed, h]
    rw [e]; clear e h
    go_enter Try.func31, Try.ntmps31
    go_wp2
    (try simp only [Exit.inBlock, Exit.then]); refine bodyPost_ret (results_tmp5 rfl _ _ _) rfl ?_
    exact fpost_same hown _ _ _ _
  by_cases h' : c = 92
  · skip
    have k1 : (c == 34) = false := by simp [h]
    have k2 : (c == 92) = true := by simp [h']
    have e : feed 2 h1 c = (3, h1, [], true, false) := by simp [feed, h']
    rw [e]; clear e h h'
    go_enter Try.func31, Try.ntmps31
    go_wp2
    (try simp only [Exit.inBlock, Exit.then]); refine bodyPost_ret (results_tmp5 rfl _ _ _) rfl ?_
    exact fpost_same hown _ _ _ _
  · skip
    have k1 : (c == 34) = false := by simp [h]
    have k2 : (c == 92) = false := by simp [h']
    have e : feed 2 h1 c = (2, h1, [c], true, false) := by simp [feed, h, h']
    rw [e]; clear e h h'
    go_enter Try.func31, Try.ntmps31
    go_wp2_with (first | (at_builtin; refine wpList_append_own_at _ rfl _ _ 22 rfl B 5 i0 (.int .u8 0) 1 1 Try.underlying22 hi hz0 hz1 hz2 rfl (by decide) _ _ _ rfl (hown.alloc _) ⟨w.heap.size, 0, none⟩ 1 1 [.int .u8 (c)] rfl rfl (cell_one_new _ _ _) ?c2 ?c3 ?c4 ?c5 ?_))
    case c2 => first | rfl | (intro u hu; simp at hu; subst hu; rfl)
    case c3 => first | (simp [maxLen]; omega) | (unfold maxLen; omega)
    case c4 => first | (simp; omega) | omega
    case c5 => first | (simp; omega) | omega
    intro v' w1 hown' hgrow hnil hat
    have R := hidF (fpost_put (c) 2 h1 true false hown' hgrow hnil (by simpa using hat))
    clear hown' hgrow hnil hat
    go_wp2
    (try simp only [Exit.inBlock, Exit.then]); refine bodyPost_ret (results_tmp5 rfl _ _ _) rfl ?_
    exact R.out

set_option maxRecDepth 100000 in
set_option maxHeartbeats 1000000 in
theorem feed_esc (B : Nat) (v0 : Value) (xs : List Int) (h1 c : Int) (w : World) (hown : Own B w v0 xs) (hB : B ≤ w.heap.size) (hm : xs.length ≤ 100000000) (hc0 : 0 ≤ c) (hc1 : c ≤ 255) :
    Calls Try.prog 31 #[.int .i64 3, .int .u8 h1, v0, .int .u8 c] w (FPost B v0 xs w (feed 3 h1 c)) := by
  obtain ⟨i0, hi, hz0, hz1, hz2⟩ := info_parts Try.info5
  by_cases h : c = 120
  · skip
    have k1 : (c == 120) = true := by simp [h]
    have e : feed 3 h1 c = (4, h1, [], true, false) := by simp [feed, h]
    rw [e]; clear e h
    go_enter Try.func31, Try.ntmps31
    go_wp2
    (try simp only [Exit.inBlock, Exit.then]); refine bodyPost_ret (results_tmp5 rfl _ _ _) rfl ?_
    exact fpost_same hown _ _ _ _
  · skip
    have k1 : (c == 120) = false := by simp [h]
    have e : feed 3 h1 c = (2, h1, [unesc c], true, false) := by simp [feed, h]
    rw [e]; clear e h
    go_enter Try.func31, Try.ntmps31
    go_wp2_with (first | (at_builtin; refine wpList_append_own_at _ rfl _ _ 22 rfl B 5 i0 (.int .u8 0) 1 1 Try.underlying22 hi hz0 hz1 hz2 rfl (by decide) _ _ _ rfl (hown.alloc _) ⟨w.heap.size, 0, none⟩ 1 1 [.int .u8 (unesc c)] rfl rfl (cell_one_new _ _ _) ?c2 ?c3 ?c4 ?c5 ?_) | (go_at_call 35; refine (named_any _ _).mono ?_; rintro e w' ⟨rfl, hw⟩; have hw := hw.symm; subst hw))
    case c2 => first | rfl | (intro u hu; simp at hu; subst hu; rfl)
    case c3 => first | (simp [maxLen]; omega) | (unfold maxLen; omega)
    case c4 => first | (simp; omega) | omega
    case c5 => first | (simp; omega) | omega
    intro v' w1 hown' hgrow hnil hat
    have R := hidF (fpost_put (unesc c) 2 h1 true false hown' hgrow hnil (by simpa using hat))
    clear hown' hgrow hnil hat
    go_wp2
    (try simp only [Exit.inBlock, Exit.then]); refine bodyPost_ret (results_tmp5 rfl _ _ _) rfl ?_
    exact R.out

set_option maxRecDepth 100000 in
set_option maxHeartbeats 1000000 in
theorem feed_x (B : Nat) (v0 : Value) (xs : List Int) (h1 c : Int) (w : World) (hown : Own B w v0 xs) (hB : B ≤ w.heap.size) (hm : xs.length ≤ 100000000) (hc0 : 0 ≤ c) (hc1 : c ≤ 255) :
    Calls Try.prog 31 #[.int .i64 4, .int .u8 h1, v0, .int .u8 c] w (FPost B v0 xs w (feed 4 h1 c)) := by
  obtain ⟨i0, hi, hz0, hz1, hz2⟩ := info_parts Try.info5
  cases h : hexb c with
  | true =>
    have k0 : hexVal' c = hexv c := by rw [hexVal', if_pos h]
    have k1 := hexv_rng h
    have K0 := hidF k0
    rw [← k0] at k1
    clear k0
    have e : feed 4 h1 c = (5, c, [], true, false) := by simp [feed, h]
    rw [e]; clear e h K0
    go_enter Try.func31, Try.ntmps31
    go_wp2_with (go_at_call 36; refine (hexVal_any _ _ (by omega) (by omega)).mono ?_; rintro e w' ⟨rfl, hw⟩; have hw := hw.symm; subst hw)
    (try simp only [Exit.inBlock, Exit.then]); refine bodyPost_ret (results_tmp5 rfl _ _ _) rfl ?_
    exact fpost_same hown _ _ _ _
  | false =>
    have k1 : hexVal' c = -1 := by rw [hexVal', h]; rfl
    have k2 : hexVal' c < 0 := by omega
    have e : feed 4 h1 c = (2, h1, [120], false, false) := by simp [feed, h]
    rw [e]; clear e h k1
    go_enter Try.func31, Try.ntmps31
    go_wp2_with (first | (at_builtin; refine wpList_append_own_at _ rfl _ _ 22 rfl B 5 i0 (.int .u8 0) 1 1 Try.underlying22 hi hz0 hz1 hz2 rfl (by decide) _ _ _ rfl (hown.alloc _) ⟨w.heap.size, 0, none⟩ 1 1 [.int .u8 (120)] rfl rfl (cell_one_new _ _ _) ?c2 ?c3 ?c4 ?c5 ?_) | (go_at_call 36; refine (hexVal_any _ _ (by omega) (by omega)).mono ?_; rintro e w' ⟨rfl, hw⟩; have hw := hw.symm; subst hw))
    case c2 => first | rfl | (intro u hu; simp at hu; subst hu; rfl)
    case c3 => first | (simp [maxLen]; omega) | (unfold maxLen; omega)
    case c4 => first | (simp; omega) | omega
    case c5 => first | (simp; omega) | omega
    intro v' w1 hown' hgrow hnil hat
    have R := hidF (fpost_put (120) 2 h1 false false hown' hgrow hnil (by simpa using hat))
    clear hown' hgrow hnil hat
    go_wp2
    (try simp only [Exit.inBlock, Exit.then]); refine bodyPost_ret (results_tmp5 rfl _ _ _) rfl ?_
    exact R.out


set_option maxRecDepth 100000 in
set_option maxHeartbeats 1000000 in
theorem feed_xh (B : Nat) (v0 : Value) (xs : List Int) (h1 c : Int) (w : World) (hown : Own B w v0 xs) (hB : B ≤ w.heap.size) (hm : xs.length ≤ 100000000) (hc0 : 0 ≤ c) (hc1 : c ≤ 255) (hh : hexb h1 = true) (hh0 : 0 ≤ h1) (hh1 : h1 ≤ 255) :
    Calls Try.prog 31 #[.int .i64 5, .int .u8 h1, v0, .int .u8 c] w (FPost B v0 xs w (feed 5 h1 c)) := by
  obtain ⟨i0, hi, hz0, hz1, hz2⟩ := info_parts Try.info5
  have j0 : hexVal' h1 = hexv h1 := by rw [hexVal', if_pos hh]
  have j1 := hexv_rng hh
  rw [← j0] at j1
  cases h : hexb c with
  | true =>
    have k0 : hexVal' c = hexv c := by rw [hexVal', if_pos h]
    have k1 := hexv_rng h
    rw [← k0] at k1
    have e : feed 5 h1 c = (2, h1, [hexVal' h1 * 16 + hexVal' c], true, false) := by simp [feed, h, k0, j0]
    rw [e]; clear e h hh k0 j0
    go_enter Try.func31, Try.ntmps31
    go_wp2_with (first | (at_builtin; refine wpList_append_own_at _ rfl _ _ 22 rfl B 5 i0 (.int .u8 0) 1 1 Try.underlying22 hi hz0 hz1 hz2 rfl (by decide) _ _ _ rfl (hown.alloc _) ⟨w.heap.size, 0, none⟩ 1 1 [.int .u8 (hexVal' h1 * 16 + hexVal' c)] rfl rfl (cell_one_new _ _ _) ?c2 ?c3 ?c4 ?c5 ?_) | (go_at_call 36; refine (hexVal_any _ _ (by omega) (by omega)).mono ?_; rintro e w' ⟨rfl, hw⟩; have hw := hw.symm; subst hw))
    case c2 => first | rfl | (intro u hu; simp at hu; subst hu; rfl) | (simp [Value.oneCell'])
    case c3 => first | (simp [maxLen]; omega) | (unfold maxLen; omega)
    case c4 => first | (simp; omega) | omega
    case c5 => first | (simp; omega) | omega
    intro v' w1 hown' hgrow hnil hat
    have R := hidF (fpost_put _ 2 h1 true false hown' hgrow hnil (by simpa using hat))
    clear hown' hgrow hnil hat
    go_wp2
    (try simp only [Exit.inBlock, Exit.then]); refine bodyPost_ret (results_tmp5 rfl _ _ _) rfl ?_
    exact R.out
  | false =>
    have k1 : hexVal' c = -1 := by rw [hexVal', h]; rfl
    have k2 : hexVal' c < 0 := by omega
    have e : feed 5 h1 c = (2, h1, [120, h1], false, false) := by simp [feed, h]
    rw [e]; clear e h hh j0 k1
    go_enter Try.func31, Try.ntmps31
    go_wp2_with (first | (at_builtin; refine wpList_append_own_at _ rfl _ _ 22 rfl B 5 i0 (.int .u8 0) 1 1 Try.underlying22 hi hz0 hz1 hz2 rfl (by decide) _ _ _ rfl (hown.alloc _) ⟨w.heap.size, 0, none⟩ 2 2 [.int .u8 120, .int .u8 h1] rfl rfl (World.news_of_block (cs := #[.int .u8 120, .int .u8 h1]) (t := 5) (fr := (0, 0)) (heap_alloc_new w _)) ?c2 ?c3 ?c4 ?c5 ?_) | (go_at_call 36; refine (hexVal_any _ _ (by omega) (by omega)).mono ?_; rintro e w' ⟨rfl, hw⟩; have hw := hw.symm; subst hw))
    case c2 => first | rfl | (intro u hu; simp at hu; subst hu; rfl) | (simp [Value.oneCell'])
    case c3 => first | (simp [maxLen]; omega) | (unfold maxLen; omega)
    case c4 => first | (simp; omega) | omega
    case c5 => first | (simp; omega) | omega
    intro v' w1 hown' hgrow hnil hat
    have R := hidF (fpost_put2 _ _ 2 h1 false false hown' hgrow hnil (by simpa using hat))
    clear hown' hgrow hnil hat
    go_wp2
    (try simp only [Exit.inBlock, Exit.then]); refine bodyPost_ret (results_tmp5 rfl _ _ _) rfl ?_
    exact R.out

end Go.Proofs.Qxb6603819a
