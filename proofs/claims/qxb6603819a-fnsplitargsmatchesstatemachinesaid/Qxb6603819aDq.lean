/-
  What a double-quoted text means: 'adq', with its laws. And 'Gr': a world in which one slice of the call's own has been appended to.
-/
import Derived.Test.Qxb6603819aLeaf
import Derived.Maps.AppendAt
namespace Go.Proofs.Qxb6603819a
open Go.RowKit

def shift (d : List Int) (n : Nat) (o : Option (List Int × Nat)) : Option (List Int × Nat) := o.map (fun p => (d ++ p.1, n + p.2))

theorem shift_shift (d e : List Int) (n m : Nat) (o : Option (List Int × Nat)) : shift d n (shift e m o) = shift (d ++ e) (n + m) o := by
  cases o with
  | none => rfl
  | some p => simp [shift, Nat.add_assoc]
theorem shift_nil (o : Option (List Int × Nat)) : shift [] 0 o = o := by
  cases o with
  | none => rfl
  | some p => simp [shift]

/-- The text of a double-quoted string, its opening quote read: what it decodes to, and how many bytes it takes, its closing quote with them; none where it does not close. -/
def adq : List Int → Option (List Int × Nat)
  | [] => none
  | c :: r =>
    if c = 34 then some ([], 1)
    else if c = 92 then
      match r with
      | [] => none
      | d :: r1 =>
        if d = 120 then
          match r1 with
          | [] => none
          | [h] => shift [120] 2 (adq [h])
          | h1 :: h2 :: r2 => if hexb h1 = true ∧ hexb h2 = true then shift [hexv h1 * 16 + hexv h2] 4 (adq r2) else shift [120] 2 (adq (h1 :: h2 :: r2))
        else shift [unesc d] 2 (adq r1)
    else shift [c] 1 (adq r)

theorem adq_nil : adq [] = none := by unfold adq; rfl
theorem adq_close (r : List Int) : adq (34 :: r) = some ([], 1) := by unfold adq; rw [if_pos rfl]
theorem adq_plain {c : Int} (r : List Int) (h : c ≠ 34) (h2 : c ≠ 92) : adq (c :: r) = shift [c] 1 (adq r) := by
  rw [adq.eq_def]; simp only [if_neg h, if_neg h2]
theorem adq_hex {h1 h2 : Int} (r : List Int) (a : hexb h1 = true) (b : hexb h2 = true) : adq (92 :: 120 :: h1 :: h2 :: r) = shift [hexv h1 * 16 + hexv h2] 4 (adq r) := by
  rw [adq.eq_def]; simp [a, b]
theorem adq_esc {d : Int} (r : List Int) (h : d ≠ 120) : adq (92 :: d :: r) = shift [unesc d] 2 (adq r) := by
  rw [adq.eq_def]; simp [h]
theorem adq_last : adq [92] = none := by rw [adq.eq_def]; simp
theorem unesc_x : unesc 120 = 120 := by decide
theorem adq_x (r : List Int) (h : ∀ h1 h2 r2, r = h1 :: h2 :: r2 → ¬ (hexb h1 = true ∧ hexb h2 = true)) : adq (92 :: 120 :: r) = shift [120] 2 (adq r) := by
  rw [adq.eq_def]
  match r, h with
  | [], _ => simp [adq_nil, shift]
  | [x], _ => simp
  | h1 :: h2 :: r2, h => simp [h h1 h2 r2 rfl]
theorem adq_any {d : Int} (r : List Int) (h : d = 120 → ∀ h1 h2 r2, r = h1 :: h2 :: r2 → ¬ (hexb h1 = true ∧ hexb h2 = true)) : adq (92 :: d :: r) = shift [unesc d] 2 (adq r) := by
  by_cases hd : d = 120
  · subst hd; rw [unesc_x]; exact adq_x r (h rfl)
  · exact adq_esc r hd

/-- One slice of the call's own, v0, has been appended to: it has become v'. All else that was there is as it was. -/
structure Gr (w : World) (v0 : Value) (w' : World) (v' : Value) : Prop where
  grown : w.grownBy w' v0.ownBlock
  lies : v'.ownBlock = v0.ownBlock ∨ ∃ g, v'.ownBlock = some g ∧ w.heap.size ≤ g

theorem Gr.refl (w : World) (v : Value) : Gr w v w v := ⟨World.grownBy.refl _ _, .inl rfl⟩
theorem Gr.step {w w' w'' : World} {v0 v' v'' : Value} (h : Gr w v0 w' v') (g : w'.grownBy w'' v'.ownBlock) (l : v''.ownBlock = v'.ownBlock ∨ ∃ g, v''.ownBlock = some g ∧ w'.heap.size ≤ g) : Gr w v0 w'' v'' := by
  have hs := h.grown.size
  refine ⟨⟨g.os.trans h.grown.os, g.tape.trans h.grown.tape, g.output.trans h.grown.output, Nat.le_trans hs g.size, fun k hk hne => ?_⟩, ?_⟩
  · refine (g.block k (by omega) ?_).trans (h.grown.block k hk hne)
    rcases h.lies with e | ⟨g', e, hg⟩
    · rw [e]; exact hne
    · rw [e]; intro e2; simp at e2; omega
  · rcases l with e | ⟨g', e, hg⟩
    · rw [e]; exact h.lies
    · exact .inr ⟨g', e, by omega⟩
theorem Gr.trans {w w' w'' : World} {v0 v' v'' : Value} (h : Gr w v0 w' v') (k : Gr w' v' w'' v'') : Gr w v0 w'' v'' := h.step k.grown k.lies
theorem Gr.alloc {w w' : World} {v0 v' : Value} (h : Gr w v0 w' v') (o : Obj) : Gr w v0 (w'.alloc o) v' := h.step (World.grownBy_alloc _ _ _) (.inl rfl)
theorem Gr.sm {w w' w'' : World} {v0 v' : Value} (h : Gr w v0 w' v') (k : Sm w' w'') : Gr w v0 w'' v' :=
  h.step ⟨k.os, k.tape, k.output, by rw [k.heap]; exact Nat.le_refl _, fun i _ _ => by rw [k.heap]⟩ (.inl rfl)
theorem Gr.rd {w w' : World} {v0 v' : Value} {a : Option Addr} {n : Nat} {zs : List Int} (h : Gr w v0 w' v') (r : Rd w a n zs) (hold : ∀ x, a = some x → 0 < n → x.block < w.heap.size ∧ some x.block ≠ v0.ownBlock) : Rd w' a n zs := by
  refine ⟨r.hlen, r.b8, fun hp => ?_⟩
  obtain ⟨b, off, rfl, hc⟩ := r.cells hp
  obtain ⟨h1, h2⟩ := hold _ rfl hp
  exact ⟨b, off, rfl, fun i hi => (World.cell?_of_block (w := w) (h.grown.block b h1 h2)).trans (hc i hi)⟩
theorem Gr.below {B : Nat} {w w' : World} {v0 v' : Value} (h : Gr w v0 w' v') (h1 : B ≤ w.heap.size) (h2 : ∀ k, v0.ownBlock = some k → B ≤ k) : Below B w w' :=
  (Below.refl B w).grown h.grown h1 h2
theorem Gr.own {B : Nat} {w w' : World} {v0 v' v : Value} {zs : List Int} (h : Gr w v0 w' v') (r : Own B w v zs) (hne : v.ownBlock = none ∨ v.ownBlock ≠ v0.ownBlock) : Own B w' v zs := World.ownsRow.kept r h.grown hne
theorem own_snoc {B : Nat} {w : World} {v : Value} {xs ys : List Int} (h : w.ownsRow B 5 1 v (xs.length + ys.length) (xs.map (Value.int .u8) ++ ys.map (Value.int .u8))) : Own B w v (xs ++ ys) := by
  unfold Own; rw [List.length_append, List.map_append]; exact h

end Go.Proofs.Qxb6603819a
