/-
  A slice of slices of bytes that the call itself makes.
-/
import Derived.Test.Qxb6603819aSplitLaw
namespace Go.Proofs.Qxb6603819a
open Go.RowKit

theorem Try.info22 : (Try.prog.info? 22).map (fun i => (i.zero, i.size, i.bytes)) = some (some (.slice none 0 0), 1, 24) := by kernel_rfl

/-- The elements vs of a row hold the texts zss, none of them nil; their blocks lie below M. -/
def Elems (B M : Nat) (w : World) (vs : List Value) (zss : List (List Int)) : Prop :=
  ∀ (i : Nat) (x : Value), vs[i]? = some x → Own B w x (zss.getD i []) ∧ x ≠ .slice none 0 0 ∧ ∀ k, x.ownBlock = some k → k < M

/-- The value v is a slice of slices of the call's own that reads as zss; all its blocks lie below M. -/
structure Args (B M : Nat) (w : World) (v : Value) (zss : List (List Int)) : Prop where
  ex : ∃ vs : List Value, w.ownsRow B 22 1 v zss.length vs ∧ Elems B M w vs zss
  row : ∀ k, v.ownBlock = some k → k < M

theorem Args.nil (B M : Nat) (w : World) : Args B M w (.slice none 0 0) [] :=
  ⟨⟨[], World.ownsRow_nil _ _ _ _, fun i x h => by simp at h⟩, fun k h => by simp [Value.ownBlock] at h⟩

theorem row_keep {B M : Nat} {w w' : World} {e : TypeId} {v : Value} {n : Nat} {vs : List Value} (h : w.ownsRow B e 1 v n vs) (hr : ∀ k, v.ownBlock = some k → k < M) (hb : ∀ k, k < M → w'.heap[k]? = w.heap[k]?) : w'.ownsRow B e 1 v n vs := by
  refine ⟨h.1, ?_⟩
  rcases h.2 with h1 | ⟨g, cap, cur, h1, h2, h3, r4⟩
  · exact .inl h1
  · exact .inr ⟨g, cap, cur, h1, h2, by rw [hb g (hr g (by rw [h1]; rfl))]; exact h3, r4⟩
theorem Elems.keep {B M : Nat} {w w' : World} {vs : List Value} {zss : List (List Int)} (h : Elems B M w vs zss) (hb : ∀ k, k < M → w'.heap[k]? = w.heap[k]?) : Elems B M w' vs zss := by
  intro i x hx
  obtain ⟨h1, h2, h3⟩ := h i x hx
  exact ⟨row_keep h1 h3 hb, h2, h3⟩
theorem Args.keep {B M : Nat} {w w' : World} {v : Value} {zss : List (List Int)} (h : Args B M w v zss) (hb : ∀ k, k < M → w'.heap[k]? = w.heap[k]?) : Args B M w' v zss := by
  obtain ⟨vs, h1, h2⟩ := h.ex
  exact ⟨⟨vs, row_keep h1 h.row hb, h2.keep hb⟩, h.row⟩
theorem Args.mono {B M M' : Nat} {w : World} {v : Value} {zss : List (List Int)} (h : Args B M w v zss) (hM : M ≤ M') : Args B M' w v zss := by
  obtain ⟨vs, h1, h2⟩ := h.ex
  exact ⟨⟨vs, h1, fun i x hx => ⟨(h2 i x hx).1, (h2 i x hx).2.1, fun k hk => Nat.lt_of_lt_of_le ((h2 i x hx).2.2 k hk) hM⟩⟩, fun k hk => Nat.lt_of_lt_of_le (h.row k hk) hM⟩

/-- A row of bytes and a row of slices are not one block. -/
theorem own_ne_row {B : Nat} {w : World} {y v : Value} {zs : List Int} {n : Nat} {vs : List Value} (h : Own B w y zs) (hv : w.ownsRow B 22 1 v n vs) : y.ownBlock = none ∨ y.ownBlock ≠ v.ownBlock := by
  rcases h.2 with ⟨h1, _⟩ | ⟨g, cap, cur, h1, _, h3, _⟩
  · left; rw [h1]; rfl
  · right
    rcases hv.2 with ⟨k1, _⟩ | ⟨g', cap', cur', k1, _, k3, _⟩
    · rw [h1, k1]; simp [Value.ownBlock]
    · rw [h1, k1]
      simp only [Value.ownBlock]
      intro e
      simp only [Option.some.injEq] at e
      subst e
      rw [h3] at k3
      simp at k3

theorem Args.push {B M : Nat} {w w' : World} {v v' x : Value} {zss : List (List Int)} {zs : List Int} {vs : List Value} {o : Obj} (hv : w.ownsRow B 22 1 v zss.length vs) (he : Elems B M w vs zss) (hx : Own B w x zs) (hn : x ≠ .slice none 0 0)
    (hown : w'.ownsRow B 22 1 v' (zss.length + 1) (vs ++ [x])) (hg : (w.alloc o).grownBy w' v.ownBlock) : Args B w'.heap.size w' v' (zss ++ [zs]) := by
  have hl : vs.length = zss.length := by simpa using hv.1
  have tr : ∀ (y : Value) (ys : List Int), Own B w y ys → Own B w' y ys ∧ ∀ k, y.ownBlock = some k → k < w'.heap.size := fun y ys hy => by
    have h1 : Own B w' y ys := World.ownsRow.kept (World.ownsRow.alloc hy o) hg (own_ne_row hy hv)
    exact ⟨h1, fun k hk => (World.ownsRow.lt h1 k hk).2⟩
  refine ⟨⟨vs ++ [x], by simpa using hown, fun i y hy => ?_⟩, fun k hk => (World.ownsRow.lt hown k hk).2⟩
  by_cases hi : i < vs.length
  · rw [List.getElem?_append_left hi] at hy
    obtain ⟨h1, h2, _⟩ := he i y hy
    have e : (zss ++ [zs]).getD i [] = zss.getD i [] := by
      simp [List.getElem?_append_left (show i < zss.length by omega)]
    rw [e]
    exact ⟨(tr y _ h1).1, h2, (tr y _ h1).2⟩
  · rw [List.getElem?_append_right (by omega)] at hy
    have h0 : i - vs.length = 0 := by
      have := (List.getElem?_eq_some_iff.1 hy).1
      simp at this; omega
    rw [h0] at hy
    simp at hy
    subst hy
    have e : (zss ++ [zs]).getD i [] = zs := by
      have : i = zss.length := by omega
      subst this
      simp
    rw [e]
    exact ⟨(tr x _ hx).1, hn, (tr x _ hx).2⟩

theorem SP_close {l : List Int} (cur : List Int) (h : okAfter l = true) : SP (some cur) l = (SP none l).map (fun t => cur :: t) := by
  cases l with
  | nil => rw [SP_last, SP_end]; rfl
  | cons c r =>
    have h' : spc c = true := h
    rw [SP_white cur r h', SP_skip r h']

/-- What a call that splits a line leaves. -/
def SPost (w : World) (o : Option (List (List Int))) (e : Ending) (w' : World) : Prop :=
  match o with
  | none => e = .returned (.tuple #[.slice none 0 0, .bool false]) ∧ Below w.heap.size w w'
  | some zss => ∃ v, e = .returned (.tuple #[v, .bool true]) ∧ Args w.heap.size w'.heap.size w' v zss ∧ (v = .slice none 0 0 ↔ zss = []) ∧ Below w.heap.size w w'

end Go.Proofs.Qxb6603819a
