/-
  'sqFeed' walked; the single-quote states told by what they hold back.
-/
import Derived.Test.Qxb6603819aSplit
namespace Go.Proofs.Qxb6603819a
open Go.RowKit
set_option linter.unusedVariables false

def feedS (st c : Int) : Int × List Int × Bool × Bool :=
  if st = 7 then (if c = 39 then (6, [39], true, false) else (6, [92], false, false))
  else if c = 39 then (6, [], true, true) else if c = 92 then (7, [], true, false) else (6, [c], true, false)

def FSPost (B : Nat) (v0 : Value) (xs : List Int) (w : World) (r : Int × List Int × Bool × Bool) (e : Ending) (w' : World) : Prop :=
  ∃ v', e = .returned (.tuple #[.int .i64 r.1, v', .bool r.2.2.1, .bool r.2.2.2]) ∧ Own B w' v' (xs ++ r.2.1) ∧ Gr w v0 w' v' ∧ (v' = .slice none 0 0 ↔ v0 = .slice none 0 0 ∧ r.2.1 = [])

theorem fspost_same {B : Nat} {v0 : Value} {xs : List Int} {w : World} (hown : Own B w v0 xs) (a : Int) (p q : Bool) : FSPost B v0 xs w (a, [], p, q) (.returned (.tuple #[.int .i64 a, v0, .bool p, .bool q])) w :=
  ⟨v0, rfl, by simpa using hown, Gr.refl _ _, by simp⟩
theorem fspost_put {B : Nat} {v0 v' : Value} {xs : List Int} {w w' : World} {o : Obj} (d : Int) (a : Int) (p q : Bool)
    (hown : w'.ownsRow B 5 1 v' (xs.length + 1) (xs.map (Value.int .u8) ++ [.int .u8 d])) (hg : (w.alloc o).grownBy w' v0.ownBlock) (hn : ¬ v' = .slice none 0 0)
    (hat : v'.ownBlock = v0.ownBlock ∨ v'.ownBlock = some (w.heap.size + 1)) : FSPost B v0 xs w (a, [d], p, q) (.returned (.tuple #[.int .i64 a, v', .bool p, .bool q])) w' := by
  refine ⟨v', rfl, own_snoc (ys := [d]) hown, ((Gr.refl w v0).alloc o).step hg ?_, by simp [hn]⟩
  rcases hat with e | e
  · exact .inl e
  · exact .inr ⟨_, e, by simp⟩
theorem results_tmp4 {fn : Func} {t u v x : Tmp} (h : fn.results = #[.tmp t, .tmp u, .tmp v, .tmp x]) (tmps : Array Value) (P : Program) (w : World) :
    (results fn tmps).run P w = .ok (.tuple #[tmps.getD t undef, tmps.getD u undef, tmps.getD v undef, tmps.getD x undef]) w := by
  simp [results, h]

set_option maxRecDepth 100000 in
set_option maxHeartbeats 1000000 in
theorem feedS_6 (B : Nat) (v0 : Value) (xs : List Int) (c : Int) (w : World) (hown : Own B w v0 xs) (hB : B ≤ w.heap.size) (hm : xs.length ≤ 100000000) :
    Calls Try.prog 30 #[.int .i64 6, v0, .int .u8 c] w (FSPost B v0 xs w (feedS 6 c)) := by
  obtain ⟨i0, hi, hz0, hz1, hz2⟩ := info_parts Try.info5
  by_cases h : c = 39
  · skip
    have k1 : (c == 39) = true := by simp [h]
    have e : feedS 6 c = (6, [], true, true) := by simp [feedS, h]
    rw [e]; clear e h
    go_enter Try.func30, Try.ntmps30
    go_wp2
    (try simp only [Exit.inBlock, Exit.then]); refine bodyPost_ret (results_tmp4 rfl _ _ _) rfl ?_
    exact fspost_same hown _ _ _
  by_cases h' : c = 92
  · skip
    have k1 : (c == 39) = false := by simp [h]
    have k2 : (c == 92) = true := by simp [h']
    have e : feedS 6 c = (7, [], true, false) := by simp [feedS, h']
    rw [e]; clear e h h'
    go_enter Try.func30, Try.ntmps30
    go_wp2
    (try simp only [Exit.inBlock, Exit.then]); refine bodyPost_ret (results_tmp4 rfl _ _ _) rfl ?_
    exact fspost_same hown _ _ _
  · skip
    have k1 : (c == 39) = false := by simp [h]
    have k2 : (c == 92) = false := by simp [h']
    have e : feedS 6 c = (6, [c], true, false) := by simp [feedS, h, h']
    rw [e]; clear e h h'
    go_enter Try.func30, Try.ntmps30
    go_wp2_with (at_builtin; refine wpList_append_own_at _ rfl _ _ 22 rfl B 5 i0 (.int .u8 0) 1 1 Try.underlying22 hi hz0 hz1 hz2 rfl (by decide) _ _ _ rfl (hown.alloc _) ⟨w.heap.size, 0, none⟩ 1 1 [.int .u8 (c)] rfl rfl (cell_one_new _ _ _) ?c2 ?c3 ?c4 ?c5 ?_)
    case c2 => first | rfl | (intro u hu; simp at hu; subst hu; rfl)
    case c3 => first | (simp [maxLen]; omega) | (unfold maxLen; omega)
    case c4 => first | (simp; omega) | omega
    case c5 => first | (simp; omega) | omega
    intro v' w1 hown' hgrow hnil hat
    have R := hidF (fspost_put (c) 6 true false hown' hgrow hnil (by simpa using hat))
    clear hown' hgrow hnil hat
    go_wp2
    (try simp only [Exit.inBlock, Exit.then]); refine bodyPost_ret (results_tmp4 rfl _ _ _) rfl ?_
    exact R.out

set_option maxRecDepth 100000 in
set_option maxHeartbeats 1000000 in
theorem feedS_7 (B : Nat) (v0 : Value) (xs : List Int) (c : Int) (w : World) (hown : Own B w v0 xs) (hB : B ≤ w.heap.size) (hm : xs.length ≤ 100000000) :
    Calls Try.prog 30 #[.int .i64 7, v0, .int .u8 c] w (FSPost B v0 xs w (feedS 7 c)) := by
  obtain ⟨i0, hi, hz0, hz1, hz2⟩ := info_parts Try.info5
  by_cases h : c = 39
  · skip
    have k1 : (c == 39) = true := by simp [h]
    have e : feedS 7 c = (6, [39], true, false) := by simp [feedS, h]
    rw [e]; clear e h
    go_enter Try.func30, Try.ntmps30
    go_wp2_with (at_builtin; refine wpList_append_own_at _ rfl _ _ 22 rfl B 5 i0 (.int .u8 0) 1 1 Try.underlying22 hi hz0 hz1 hz2 rfl (by decide) _ _ _ rfl (hown.alloc _) ⟨w.heap.size, 0, none⟩ 1 1 [.int .u8 (39)] rfl rfl (cell_one_new _ _ _) ?c2 ?c3 ?c4 ?c5 ?_)
    case c2 => first | rfl | (intro u hu; simp at hu; subst hu; rfl)
    case c3 => first | (simp [maxLen]; omega) | (unfold maxLen; omega)
    case c4 => first | (simp; omega) | omega
    case c5 => first | (simp; omega) | omega
    intro v' w1 hown' hgrow hnil hat
    have R := hidF (fspost_put (39) 6 true false hown' hgrow hnil (by simpa using hat))
    clear hown' hgrow hnil hat
    go_wp2
    (try simp only [Exit.inBlock, Exit.then]); refine bodyPost_ret (results_tmp4 rfl _ _ _) rfl ?_
    exact R.out
  · skip
    have k1 : (c == 39) = false := by simp [h]
    have e : feedS 7 c = (6, [92], false, false) := by simp [feedS, h]
    rw [e]; clear e h
    go_enter Try.func30, Try.ntmps30
    go_wp2_with (at_builtin; refine wpList_append_own_at _ rfl _ _ 22 rfl B 5 i0 (.int .u8 0) 1 1 Try.underlying22 hi hz0 hz1 hz2 rfl (by decide) _ _ _ rfl (hown.alloc _) ⟨w.heap.size, 0, none⟩ 1 1 [.int .u8 (92)] rfl rfl (cell_one_new _ _ _) ?c2 ?c3 ?c4 ?c5 ?_)
    case c2 => first | rfl | (intro u hu; simp at hu; subst hu; rfl)
    case c3 => first | (simp [maxLen]; omega) | (unfold maxLen; omega)
    case c4 => first | (simp; omega) | omega
    case c5 => first | (simp; omega) | omega
    intro v' w1 hown' hgrow hnil hat
    have R := hidF (fspost_put (92) 6 false false hown' hgrow hnil (by simpa using hat))
    clear hown' hgrow hnil hat
    go_wp2
    (try simp only [Exit.inBlock, Exit.then]); refine bodyPost_ret (results_tmp4 rfl _ _ _) rfl ?_
    exact R.out

def pendS (st : Int) : List Int := if st = 7 then [92] else []
def SqSt (st : Int) : Prop := st = 6 ∨ st = 7

theorem feedS_any (B : Nat) (v0 : Value) (xs : List Int) (st c : Int) (w : World) (hst : SqSt st) (hown : Own B w v0 xs) (hB : B ≤ w.heap.size) (hm : xs.length ≤ 100000000) :
    Calls Try.prog 30 #[.int .i64 st, v0, .int .u8 c] w (FSPost B v0 xs w (feedS st c)) := by
  rcases hst with rfl | rfl
  · exact feedS_6 B v0 xs c w hown hB hm
  · exact feedS_7 B v0 xs c w hown hB hm

/-- What follows an opening quote: the text, then the end or white space. -/
def after (f : List Int → Option (List Int × Nat)) (cur l : List Int) : Option (List (List Int)) :=
  match f l with
  | none => none
  | some (d, n) => if okAfter (l.drop n) = true then SP (some (cur ++ d)) (l.drop n) else none

/-- Behind a closing quote. -/
def closedM (cur l : List Int) : Option (List (List Int)) := if okAfter l = true then SP (some cur) l else none

theorem after_shift {f : List Int → Option (List Int × Nat)} {cur l l2 e : List Int} {m : Nat} (h : f l = shift e m (f l2)) (hl : l.drop m = l2) : after f cur l = after f (cur ++ e) l2 := by
  unfold after
  rw [h]
  cases f l2 with
  | none => rfl
  | some p =>
    simp only [shift, Option.map_some]
    rw [← List.drop_drop, hl, List.append_assoc]
theorem after_close {f : List Int → Option (List Int × Nat)} {cur r : List Int} {c : Int} (h : f (c :: r) = some ([], 1)) : after f cur (c :: r) = closedM cur r := by
  unfold after closedM
  rw [h]
  simp
theorem after_none {f : List Int → Option (List Int × Nat)} {cur l : List Int} (h : f l = none) : after f cur l = none := by
  unfold after; rw [h]

/-- What one feed does to what is still to be read: q: the next state's hold-back, the text, used, closed. -/
structure StepOk (f : List Int → Option (List Int × Nat)) (cur pd : List Int) (c : Int) (r : List Int) (pd' out : List Int) (us cd : Bool) : Prop where
  closed : cd = true → after f cur (pd ++ c :: r) = closedM (cur ++ out) r ∧ us = true ∧ out = []
  used : cd = false → us = true → after f cur (pd ++ c :: r) = after f (cur ++ out) (pd' ++ r) ∧ out.length + pd'.length ≤ pd.length + 1
  kept : cd = false → us = false → after f cur (pd ++ c :: r) = after f (cur ++ out) (pd' ++ c :: r) ∧ out.length + pd'.length ≤ pd.length

theorem step_dq (cur : List Int) (st h1 c : Int) (r : List Int) (hst : DqSt st h1) (hc0 : 0 ≤ c) (hc1 : c ≤ 255) :
    StepOk adq cur (pend st h1) c r (pend (feed st h1 c).1 (feed st h1 c).2.1) (feed st h1 c).2.2.1 (feed st h1 c).2.2.2.1 (feed st h1 c).2.2.2.2 := by
  have F := feed_ok st h1 c r hst hc0 hc1
  have D : (feed st h1 c).2.2.2.2 = false → ((feed st h1 c).2.2.2.1 = true → (pend st h1 ++ c :: r).drop ((pend st h1).length + 1 - (pend (feed st h1 c).1 (feed st h1 c).2.1).length) = pend (feed st h1 c).1 (feed st h1 c).2.1 ++ r) ∧
      ((feed st h1 c).2.2.2.1 = false → (pend st h1 ++ c :: r).drop ((pend st h1).length - (pend (feed st h1 c).1 (feed st h1 c).2.1).length) = pend (feed st h1 c).1 (feed st h1 c).2.1 ++ c :: r) := by
    rcases hst with rfl | rfl | rfl | ⟨rfl, a, b, d⟩
    · by_cases h : c = 34
      · simp [feed, h]
      · by_cases h' : c = 92
        · simp [feed, h', pend]
        · simp [feed, h, h', pend]
    · by_cases h : c = 120
      · simp [feed, h, pend]
      · simp [feed, h, pend]
    · cases h : hexb c <;> simp [feed, h, pend]
    · cases h : hexb c <;> simp [feed, h, pend]
  refine ⟨fun e => ?_, fun e1 e2 => ?_, fun e1 e2 => ?_⟩
  · obtain ⟨f1, f2, f3, f4⟩ := F.closed e
    rw [f2] at f1 ⊢
    rw [f3, List.append_nil]
    exact ⟨after_close f1, f4, rfl⟩
  · obtain ⟨f1, f2⟩ := F.used e1 e2
    exact ⟨after_shift f1 ((D e1).1 e2), f2⟩
  · obtain ⟨f1, f2, _⟩ := F.kept e1 e2
    exact ⟨after_shift f1 ((D e1).2 e2), f2⟩

theorem step_sq (cur : List Int) (st c : Int) (r : List Int) (hst : SqSt st) : StepOk asq cur (pendS st) c r (pendS (feedS st c).1) (feedS st c).2.1 (feedS st c).2.2.1 (feedS st c).2.2.2 := by
  rcases hst with rfl | rfl
  · by_cases h : c = 39
    · subst h
      have e : feedS 6 39 = (6, [], true, true) := by simp [feedS]
      rw [e]
      exact ⟨fun _ => ⟨by simp only [pendS]; simp; exact after_close (asq_close r), rfl, rfl⟩, fun h => by simp at h, fun h => by simp at h⟩
    · by_cases h' : c = 92
      · subst h'
        have e : feedS 6 92 = (7, [], true, false) := by simp [feedS]
        rw [e]
        exact ⟨fun h => by simp at h, fun _ _ => ⟨by simp [pendS], by simp [pendS]⟩, fun _ h => by simp at h⟩
      · have e : feedS 6 c = (6, [c], true, false) := by simp [feedS, h, h']
        rw [e]
        exact ⟨fun h => by simp at h, fun _ _ => ⟨by simp only [pendS]; simp; exact after_shift (asq_plain r h (fun e => absurd e h')) rfl, by simp [pendS]⟩, fun _ h => by simp at h⟩
  · by_cases h : c = 39
    · subst h
      have e : feedS 7 39 = (6, [39], true, false) := by simp [feedS]
      rw [e]
      exact ⟨fun h => by simp at h, fun _ _ => ⟨by simp only [pendS]; simp; exact after_shift (asq_esc r) rfl, by simp [pendS]⟩, fun _ h => by simp at h⟩
    · have e : feedS 7 c = (6, [92], false, false) := by simp [feedS, h]
      rw [e]
      exact ⟨fun h => by simp at h, fun _ h => by simp at h, fun _ _ => ⟨by simp only [pendS]; simp; exact after_shift (asq_plain (c :: r) (by omega) (fun _ => by simpa using h)) rfl, by simp [pendS]⟩⟩

theorem pendS_end (st : Int) (hst : SqSt st) : asq (pendS st) = none := by
  rcases hst with rfl | rfl
  · simp [pendS, asq_nil]
  · simp only [pendS]; simp; rw [asq_plain [] (by omega) (by simp), asq_nil]; rfl

theorem feed_state (st h1 c : Int) (hst : DqSt st h1) (hc0 : 0 ≤ c) (hc1 : c ≤ 255) : DqSt (feed st h1 c).1 (feed st h1 c).2.1 := (feed_ok st h1 c [] hst hc0 hc1).state
theorem feedS_state (st c : Int) (hst : SqSt st) : SqSt (feedS st c).1 := by
  unfold feedS SqSt; (repeat' split) <;> simp
theorem feed_keep (st h1 c : Int) (hst : DqSt st h1) (hc0 : 0 ≤ c) (hc1 : c ≤ 255) (e1 : (feed st h1 c).2.2.2.2 = false) (e2 : (feed st h1 c).2.2.2.1 = false) : (st = 4 ∨ st = 5) ∧ (feed st h1 c).1 = 2 :=
  ((feed_ok st h1 c [] hst hc0 hc1).kept e1 e2).2.2
theorem feedS_keep (st c : Int) (e2 : (feedS st c).2.2.1 = false) : st = 7 ∧ (feedS st c).1 = 6 := by
  unfold feedS at *
  split at e2
  · rename_i h
    split at e2
    · simp at e2
    · rename_i h2; simp [h, h2]
  · (repeat' split at e2) <;> simp at e2

end Go.Proofs.Qxb6603819a
