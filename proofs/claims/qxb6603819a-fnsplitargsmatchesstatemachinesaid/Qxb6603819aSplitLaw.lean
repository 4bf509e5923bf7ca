/-
  What a line of arguments means: 'SP'.
-/
import Derived.Test.Qxb6603819aAsq
namespace Go.Proofs.Qxb6603819a
open Go.RowKit

/-- Behind a closing quote: the end of the line, or white space. -/
def okAfter : List Int → Bool
  | [] => true
  | c :: _ => spc c

/-- The line read on, by fuel: between two arguments (none), or inside one (some, what it holds so far). -/
def sp : Nat → Option (List Int) → List Int → Option (List (List Int))
  | 0, _, _ => none
  | _ + 1, none, [] => some []
  | f + 1, none, c :: r => if spc c = true then sp f none r else sp f (some []) (c :: r)
  | _ + 1, some cur, [] => some [cur]
  | f + 1, some cur, c :: r =>
    if spc c = true then (sp f none r).map (fun t => cur :: t)
    else if c = 34 then (match adq r with | none => none | some (d, n) => if okAfter (r.drop n) = true then sp f (some (cur ++ d)) (r.drop n) else none)
    else if c = 39 then (match asq r with | none => none | some (d, n) => if okAfter (r.drop n) = true then sp f (some (cur ++ d)) (r.drop n) else none)
    else sp f (some (cur ++ [c])) r

def need (m : Option (List Int)) (l : List Int) : Nat := 2 * l.length + (if m = none then 2 else 1)

theorem sp_fuel (f : Nat) : ∀ (f' : Nat) (m : Option (List Int)) (l : List Int), need m l ≤ f → need m l ≤ f' → sp f m l = sp f' m l := by
  induction f with
  | zero => intro f' m l h _; unfold need at h; split at h <;> omega
  | succ f ih =>
    intro f' m l h h'
    obtain ⟨g, rfl⟩ : ∃ g, f' = g + 1 := ⟨f' - 1, by unfold need at h'; split at h' <;> omega⟩
    match m, l with
    | none, [] => rfl
    | none, c :: r =>
      simp only [need, if_true, List.length_cons] at h h'
      simp only [sp]
      rw [ih g none r (by simp [need]; omega) (by simp [need]; omega), ih g (some []) (c :: r) (by simp [need]; omega) (by simp [need]; omega)]
    | some cur, [] => rfl
    | some cur, c :: r =>
      simp only [need, List.length_cons] at h h'
      simp at h h'
      simp only [sp]
      rw [ih g none r (by simp [need]; omega) (by simp [need]; omega), ih g (some (cur ++ [c])) r (by simp [need]; omega) (by simp [need]; omega)]
      have e : ∀ d n, sp f (some (cur ++ d)) (r.drop n) = sp g (some (cur ++ d)) (r.drop n) := fun d n => ih g _ _ (by simp [need]; omega) (by simp [need]; omega)
      simp only [e]

def SP (m : Option (List Int)) (l : List Int) : Option (List (List Int)) := sp (need m l) m l

theorem SP_eq {f : Nat} {m : Option (List Int)} {l : List Int} (h : need m l ≤ f) : sp f m l = SP m l := sp_fuel f _ m l h (Nat.le_refl _)

theorem SP_end : SP none [] = some [] := rfl
theorem SP_last (cur : List Int) : SP (some cur) [] = some [cur] := rfl
theorem SP_skip {c : Int} (r : List Int) (h : spc c = true) : SP none (c :: r) = SP none r := by
  rw [SP, show need none (c :: r) = (need none r + 1) + 1 by simp [need]; omega, sp, if_pos h, SP_eq (by omega)]
theorem SP_open {c : Int} (r : List Int) (h : spc c = false) : SP none (c :: r) = SP (some []) (c :: r) := by
  rw [SP, show need none (c :: r) = need (some []) (c :: r) + 1 by simp [need], sp, if_neg (by rw [h]; simp), SP_eq (Nat.le_refl _)]
theorem SP_white {c : Int} (cur r : List Int) (h : spc c = true) : SP (some cur) (c :: r) = (SP none r).map (fun t => cur :: t) := by
  rw [SP, show need (some cur) (c :: r) = need none r + 1 by simp [need]; omega, sp, if_pos h, SP_eq (Nat.le_refl _)]
theorem SP_bare {c : Int} (cur r : List Int) (h : spc c = false) (h1 : c ≠ 34) (h2 : c ≠ 39) : SP (some cur) (c :: r) = SP (some (cur ++ [c])) r := by
  rw [SP, show need (some cur) (c :: r) = (need (some (cur ++ [c])) r + 1) + 1 by simp [need]; omega, sp, if_neg (by rw [h]; simp), if_neg h1, if_neg h2, SP_eq (by omega)]
theorem SP_dq (cur r : List Int) : SP (some cur) (34 :: r) = (match adq r with | none => none | some (d, n) => if okAfter (r.drop n) = true then SP (some (cur ++ d)) (r.drop n) else none) := by
  rw [SP, show need (some cur) (34 :: r) = (2 * r.length + 2) + 1 by simp [need]; omega, sp, if_neg (by decide), if_pos rfl]
  cases adq r with
  | none => rfl
  | some p => simp only; rw [SP_eq (by simp [need]; omega)]
theorem SP_sq (cur r : List Int) : SP (some cur) (39 :: r) = (match asq r with | none => none | some (d, n) => if okAfter (r.drop n) = true then SP (some (cur ++ d)) (r.drop n) else none) := by
  rw [SP, show need (some cur) (39 :: r) = (2 * r.length + 2) + 1 by simp [need]; omega, sp, if_neg (by decide), if_neg (by decide), if_pos rfl]
  cases asq r with
  | none => rfl
  | some p => simp only; rw [SP_eq (by simp [need]; omega)]

end Go.Proofs.Qxb6603819a
