/-
  'modelSplit': what its one loop keeps.
-/
import Derived.Test.Qxb6603819aFeedS
namespace Go.Proofs.Qxb6603819a
open Go.RowKit
set_option linter.unusedVariables false

/-- What the machine, in the state st, still makes of the rest l. -/
def mean (st h : Int) (cur l : List Int) : Option (List (List Int)) :=
  if st = 0 then SP none l else if st = 1 then SP (some cur) l else if st = 8 then closedM cur l
  else if st = 6 ∨ st = 7 then after asq cur (pendS st ++ l) else after adq cur (pend st h ++ l)

/-- How much the state holds back. -/
def back (st h : Int) : Nat := if st = 6 ∨ st = 7 then (pendS st).length else (pend st h).length

theorem mean_0 (h : Int) (cur l : List Int) : mean 0 h cur l = SP none l := by simp [mean]
theorem mean_1 (h : Int) (cur l : List Int) : mean 1 h cur l = SP (some cur) l := by simp [mean]
theorem mean_8 (h : Int) (cur l : List Int) : mean 8 h cur l = closedM cur l := by simp [mean]
theorem mean_s {st : Int} (hst : SqSt st) (h : Int) (cur l : List Int) : mean st h cur l = after asq cur (pendS st ++ l) := by
  rcases hst with rfl | rfl <;> simp [mean]
theorem mean_d {st h : Int} (hst : DqSt st h) (cur l : List Int) : mean st h cur l = after adq cur (pend st h ++ l) := by
  rcases hst with rfl | rfl | rfl | ⟨rfl, _⟩ <;> simp [mean]
theorem back_s {st : Int} (hst : SqSt st) (h : Int) : back st h = (pendS st).length := by
  rcases hst with rfl | rfl <;> simp [back]
theorem back_d {st h : Int} (hst : DqSt st h) : back st h = (pend st h).length := by
  rcases hst with rfl | rfl | rfl | ⟨rfl, _⟩ <;> simp [back]

/-- Inside an argument: the arguments so far, below M; the text under way, from M on. -/
structure Cur (B M : Nat) (w : World) (v4 : Value) (accs : List (List Int)) (v5 : Value) (cur : List Int) : Prop where
  args : Args B M w v4 accs
  own : Own B w v5 cur
  nn : v5 ≠ .slice none 0 0
  ge : ∀ q, v5.ownBlock = some q → M ≤ q
  le : M ≤ w.heap.size

theorem Cur.step {B M : Nat} {w w' : World} {v4 v5 v' : Value} {accs : List (List Int)} {cur cur' : List Int} (h : Cur B M w v4 accs v5 cur) (hg : Gr w v5 w' v') (ho : Own B w' v' cur') (hn : v' ≠ .slice none 0 0) : Cur B M w' v4 accs v' cur' := by
  have hs := hg.grown.size
  have hle := h.le
  refine ⟨h.args.keep (fun k hk => hg.grown.block k (by omega) (fun e => by have := h.ge k e.symm; omega)), ho, hn, fun q hq => ?_, by omega⟩
  rcases hg.lies with e | ⟨g, e, hge⟩
  · exact h.ge q (by rw [← e]; exact hq)
  · rw [e] at hq; simp at hq; omega

def Inner (B : Nat) (w : World) (v4 : Value) (accs : List (List Int)) (v5 : Value) (cur : List Int) : Prop := ∃ M, Cur B M w v4 accs v5 cur

/-- The machine's relation. -/
structure TRel (zs : List Int) (w : World) (k : Nat) (st h : Int) (v4 v5 : Value) (wr : World) (accs : List (List Int)) (cur : List Int) : Prop where
  out : st = 0 → Args w.heap.size wr.heap.size wr v4 accs
  inn : st ≠ 0 → Inner w.heap.size wr v4 accs v5 cur
  bel : Below w.heap.size w wr
  nil : v4 = .slice none 0 0 ↔ accs = []
  val : SP none zs = (mean st h cur (zs.drop k)).map (fun t => accs ++ t)
  len : accs.length ≤ k
  cl : cur.length + back st h ≤ k

theorem gr_below {B : Nat} {w w' : World} {v5 v' : Value} {cur : List Int} (hg : Gr w v5 w' v') (ho : Own B w v5 cur) (hB : B ≤ w.heap.size) : Below B w w' := hg.below hB (fun q hq => (World.ownsRow.lt ho q hq).1)

/-- A step that grows the text and stays inside the argument. -/
theorem TRel.grow {zs : List Int} {w : World} {k : Nat} {st h : Int} {v4 v5 : Value} {wr : World} {accs : List (List Int)} {cur : List Int} (R : TRel zs w k st h v4 v5 wr accs cur) (h0 : st ≠ 0) {v' : Value} {w' : World} {out : List Int} (ho : Own w.heap.size w' v' (cur ++ out)) (hg : Gr wr v5 w' v')
    (hn : v' = .slice none 0 0 ↔ v5 = .slice none 0 0 ∧ out = []) {st' h' : Int} {k' : Nat} (h0' : st' ≠ 0) (hv : mean st h cur (zs.drop k) = mean st' h' (cur ++ out) (zs.drop k')) (hk : k ≤ k') (hl : cur.length + out.length + back st' h' ≤ k') : TRel zs w k' st' h' v4 v' w' accs (cur ++ out) := by
  obtain ⟨M, C⟩ := R.inn h0
  have hlen := R.len
  refine ⟨fun e => absurd e h0', fun _ => ⟨M, C.step hg ho (fun e => C.nn (hn.1 e).1)⟩, R.bel.trans (gr_below hg C.own R.bel.size), R.nil, ?_, by omega, by simp; omega⟩
  rw [R.val, hv]

/-- Between two arguments, white space. -/
theorem TRel.skip {zs : List Int} {w : World} {k : Nat} {h : Int} {v4 v5 : Value} {wr : World} {accs : List (List Int)} {cur : List Int} {c : Int} (R : TRel zs w k 0 h v4 v5 wr accs cur) (hd : zs.drop k = c :: zs.drop (k + 1)) (hs : spc c = true) : TRel zs w (k + 1) 0 h v4 v5 wr accs cur := by
  have hlen := R.len
  have hcl := R.cl
  refine ⟨R.out, R.inn, R.bel, R.nil, ?_, by omega, by omega⟩
  rw [R.val, mean_0, mean_0, hd, SP_skip _ hs]
/-- Between two arguments, a byte that opens one. -/
theorem TRel.open {zs : List Int} {w : World} {k : Nat} {h : Int} {v4 v5 : Value} {wr : World} {accs : List (List Int)} {cur : List Int} {c : Int} (R : TRel zs w k 0 h v4 v5 wr accs cur) (hd : zs.drop k = c :: zs.drop (k + 1)) (hs : spc c = false) :
    TRel zs w k 1 h v4 (.slice (some ⟨wr.heap.size, 0, none⟩) 0 0) (wr.alloc (.cells #[] 5)) accs [] := by
  have hlen := R.len
  have hsz := R.bel.size
  refine ⟨fun e => by omega, fun _ => ⟨wr.heap.size, ⟨(R.out rfl).keep (fun q hq => Below.heap_alloc _ _ _ hq), own_mono (own_empty wr) hsz, by simp, fun q hq => by simp [Value.ownBlock] at hq; omega, by simp⟩⟩, R.bel.alloc hsz _, R.nil, ?_, hlen, by simp [back, pend]⟩
  rw [R.val, mean_0, mean_1, hd, SP_open _ hs]
/-- The argument ends. -/
theorem TRel.close {zs : List Int} {w : World} {k : Nat} {st h : Int} {v4 v5 : Value} {wr : World} {accs : List (List Int)} {cur : List Int} (R : TRel zs w k st h v4 v5 wr accs cur) {M : Nat} (C : Cur w.heap.size M wr v4 accs v5 cur) {k' : Nat} (hv : mean st h cur (zs.drop k) = (SP none (zs.drop k')).map (fun t => cur :: t)) (hk : k < k')
    {vs : List Value} (hr : wr.ownsRow w.heap.size 22 1 v4 accs.length vs) (he : Elems w.heap.size M wr vs accs) {o : Obj} {v' : Value} {w' : World} (hown : w'.ownsRow w.heap.size 22 1 v' (accs.length + 1) (vs ++ [v5])) (hg : (wr.alloc o).grownBy w' v4.ownBlock) (hnil : ¬ v' = .slice none 0 0) :
    TRel zs w k' 0 h v' (.slice none 0 0) w' (accs ++ [cur]) [] := by
  have hlen := R.len
  have hsz := R.bel.size
  refine ⟨fun _ => Args.push hr he C.own C.nn hown hg, fun e => absurd rfl e, ?_, by simp [hnil], ?_, by simp; omega, by simp [back, pend]⟩
  · exact (R.bel.alloc hsz o).grown hg (by simp; omega) (fun q hq => (World.ownsRow.lt hr q hq).1)
  · rw [R.val, hv, mean_0]
    cases SP none (zs.drop k') with
    | none => rfl
    | some t => simp
/-- The last argument ends with the line. -/
theorem TRel.last {zs : List Int} {w : World} {k : Nat} {st h : Int} {v4 v5 : Value} {wr : World} {accs : List (List Int)} {cur : List Int} (R : TRel zs w k st h v4 v5 wr accs cur) {M : Nat} (C : Cur w.heap.size M wr v4 accs v5 cur) (hv : mean st h cur (zs.drop k) = some [cur])
    {vs : List Value} (hr : wr.ownsRow w.heap.size 22 1 v4 accs.length vs) (he : Elems w.heap.size M wr vs accs) {o : Obj} {v' : Value} {w' : World} (hown : w'.ownsRow w.heap.size 22 1 v' (accs.length + 1) (vs ++ [v5])) (hg : (wr.alloc o).grownBy w' v4.ownBlock) (hnil : ¬ v' = .slice none 0 0) :
    SPost w (SP none zs) (.returned (.tuple #[v', .bool true])) w' := by
  have hsz := R.bel.size
  rw [R.val, hv]
  exact ⟨v', rfl, Args.push hr he C.own C.nn hown hg, by simp [hnil], (R.bel.alloc hsz o).grown hg (by simp; omega) (fun q hq => (World.ownsRow.lt hr q hq).1)⟩
theorem TRel.fin {zs : List Int} {w : World} {k : Nat} {h : Int} {v4 v5 : Value} {wr : World} {accs : List (List Int)} {cur : List Int} (R : TRel zs w k 0 h v4 v5 wr accs cur) (hk : zs.length ≤ k) : SPost w (SP none zs) (.returned (.tuple #[v4, .bool true])) wr := by
  rw [R.val, mean_0, List.drop_eq_nil_of_le hk, SP_end]
  exact ⟨v4, rfl, by simpa using R.out rfl, by simpa using R.nil, R.bel⟩
theorem TRel.fail {zs : List Int} {w : World} {k : Nat} {st h : Int} {v4 v5 : Value} {wr : World} {accs : List (List Int)} {cur : List Int} (R : TRel zs w k st h v4 v5 wr accs cur) (hv : mean st h cur (zs.drop k) = none) : SPost w (SP none zs) (.returned (.tuple #[.slice none 0 0, .bool false])) wr := by
  rw [R.val, hv]
  exact ⟨rfl, R.bel⟩

end Go.Proofs.Qxb6603819a
