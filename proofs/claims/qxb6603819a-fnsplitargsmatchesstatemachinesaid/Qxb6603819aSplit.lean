/-
  'resp.SplitArgs' walked: it computes 'SP none'.
-/
import Derived.Test.Qxb6603819aLists
import Derived.Test.Qxb6603819aAdqM
import Derived.Test.Qxb6603819aMdq
namespace Go.Proofs.Qxb6603819a
open Go.RowKit

theorem asq_b8 (f : Nat) : ∀ zs : List Int, zs.length ≤ f → B8 zs → ∀ d k, asq zs = some (d, k) → B8 d ∧ d.length + 1 ≤ k ∧ k ≤ zs.length := by
  induction f with
  | zero =>
    intro zs hl _ d k h
    rw [List.eq_nil_of_length_eq_zero (by omega : zs.length = 0), asq_nil] at h
    simp at h
  | succ f ih =>
    intro zs hl h8 d k h
    have go : ∀ (e : List Int) (m : Nat) (r : List Int), e.length ≤ m → 0 < m → m + r.length ≤ zs.length → B8 e → (∀ z ∈ r, z ∈ zs) → asq zs = shift e m (asq r) → B8 d ∧ d.length + 1 ≤ k ∧ k ≤ zs.length := by
      intro e m r h1 h2 h3 h4 h5 h6
      rw [h6] at h
      obtain ⟨x', k', hr, rfl, rfl⟩ := shift_some h
      obtain ⟨a1, a2, a3⟩ := ih r (by omega) (fun z hz => h8 z (h5 z hz)) x' k' hr
      exact ⟨b8_app h4 a1, by simp; omega, by omega⟩
    match zs, hl, h8, h, go with
    | [], _, _, h, _ => rw [asq_nil] at h; simp at h
    | c :: r, hl, h8, h, go =>
      by_cases h39 : c = 39
      · subst h39
        rw [asq_close] at h
        simp at h
        obtain ⟨rfl, rfl⟩ := h
        exact ⟨B8.nil, by simp, by simp⟩
      by_cases hA : c = 92 ∧ r.head? = some 39
      · obtain ⟨rfl, hh⟩ := hA
        match r, hh, hl, h8, h, go with
        | x :: r1, hh, hl, h8, h, go =>
          simp at hh
          subst hh
          exact go _ 2 r1 (by simp) (by omega) (by simp; omega) (b8_one (by omega)) (fun z hz => by simp [hz]) (asq_esc r1)
      · exact go _ 1 r (by simp) (by omega) (by simp; omega) (b8_one (h8 c (by simp))) (fun z hz => by simp [hz]) (asq_plain r h39 (fun h => fun h2 => hA ⟨h, h2⟩))

/-- Between two arguments: k bytes are read, accs are the arguments so far. -/
structure SRel (zs : List Int) (w : World) (k : Nat) (v : Value) (wr : World) (accs : List (List Int)) : Prop where
  args : Args w.heap.size wr.heap.size wr v accs
  bel : Below w.heap.size w wr
  nil : v = .slice none 0 0 ↔ accs = []
  val : SP none zs = (SP none (zs.drop k)).map (fun t => accs ++ t)
  len : accs.length ≤ k

/-- Inside an argument that began behind k bytes, in the world wo: j bytes are read, cur is what it holds. -/
structure IRel (zs : List Int) (B : Nat) (k : Nat) (accs : List (List Int)) (wo : World) (j : Nat) (cur : List Int) (v5 : Value) (wx : World) : Prop where
  own : Own B wx v5 cur
  gr : Gr (wo.alloc (.cells #[] 5)) (.slice (some ⟨wo.heap.size, 0, none⟩) 0 0) wx v5
  nn : v5 ≠ .slice none 0 0
  val : SP none zs = (SP (some cur) (zs.drop j)).map (fun t => accs ++ t)
  len : cur.length ≤ j
  prog : k < j ∨ (j < zs.length ∧ spc (zs[j]?.getD 0) = false)
  le : k ≤ j

theorem IRel.bel {zs : List Int} {B k : Nat} {accs : List (List Int)} {wo : World} {j : Nat} {cur : List Int} {v5 : Value} {wx : World} (h : IRel zs B k accs wo j cur v5 wx) : Below wo.heap.size wo wx :=
  ((Below.refl _ _).alloc (Nat.le_refl _) _).trans (h.gr.below (by simp) (fun q hq => by simp [Value.ownBlock] at hq; omega))

theorem SRel.fin {zs : List Int} {w : World} {k : Nat} {v : Value} {wr : World} {accs : List (List Int)} (h : SRel zs w k v wr accs) (hk : SP none (zs.drop k) = SP none []) :
    SPost w (SP none zs) (.returned (.tuple #[v, .bool true])) wr := by
  rw [h.val, hk, SP_end]
  exact ⟨v, rfl, by simpa using h.args, by simpa using h.nil, h.bel⟩

theorem SRel.start {zs : List Int} {w : World} {k j : Nat} {v : Value} {wo : World} {accs : List (List Int)} (h : SRel zs w k v wo accs) (hkj : k ≤ j) (hj : j < zs.length) (hv : SP none (zs.drop k) = SP none (zs.drop j)) (hs : spc (zs[j]?.getD 0) = false) :
    IRel zs w.heap.size k accs wo j [] (.slice (some ⟨wo.heap.size, 0, none⟩) 0 0) (wo.alloc (.cells #[] 5)) := by
  refine ⟨own_mono (own_empty wo) h.bel.size, Gr.refl _ _, by simp, ?_, by simp, .inr ⟨hj, hs⟩, hkj⟩
  rw [h.val, hv, dropc zs j hj, SP_open _ hs]

theorem IRel.fin {zs : List Int} {w : World} {k : Nat} {v : Value} {wo : World} {accs : List (List Int)} {j : Nat} {cur : List Int} {v5 : Value} {wx : World} (S : SRel zs w k v wo accs) (h : IRel zs w.heap.size k accs wo j cur v5 wx) (ha : okAfter (zs.drop j) = true)
    {vs : List Value} (hv : wx.ownsRow w.heap.size 22 1 v accs.length vs) (he : Elems w.heap.size wo.heap.size wx vs accs) {o : Obj} {v' : Value} {w' : World}
    (hown : w'.ownsRow w.heap.size 22 1 v' (accs.length + 1) (vs ++ [v5])) (hg : (wx.alloc o).grownBy w' v.ownBlock) (hnil : ¬ v' = .slice none 0 0) : SRel zs w j v' w' (accs ++ [cur]) ∧ k < j := by
  have hkj : k < j := by
    rcases h.prog with h1 | ⟨h1, h2⟩
    · exact h1
    · rw [dropc zs j h1] at ha
      have ha' : spc (zs[j]?.getD 0) = true := ha
      rw [h2] at ha'; simp at ha'
  have hl := S.len
  refine ⟨⟨Args.push hv he h.own h.nn hown hg, ?_, by simp [hnil], ?_, by simp; omega⟩, hkj⟩
  · have b1 := S.bel.trans (h.bel.mono S.bel.size)
    exact (b1.alloc b1.size o).grown hg (by simp; have := b1.size; omega) (fun q hq => (World.ownsRow.lt hv q hq).1)
  · rw [h.val, SP_close cur ha]
    cases SP none (zs.drop j) with
    | none => rfl
    | some t => simp

theorem IRel.put {zs : List Int} {B k : Nat} {accs : List (List Int)} {wo : World} {j : Nat} {cur : List Int} {v5 : Value} {wx : World} (h : IRel zs B k accs wo j cur v5 wx) {c : Int} (hd : zs.drop j = c :: zs.drop (j + 1)) (h0 : spc c = false) (h1 : c ≠ 34) (h2 : c ≠ 39)
    {o : Obj} {v' : Value} {w' : World} (hown : w'.ownsRow B 5 1 v' (cur.length + 1) (cur.map (Value.int .u8) ++ [.int .u8 c])) (hg : (wx.alloc o).grownBy w' v5.ownBlock) (hn : ¬ v' = .slice none 0 0)
    (hat : v'.ownBlock = v5.ownBlock ∨ v'.ownBlock = some (wx.heap.size + 1)) : IRel zs B k accs wo (j + 1) (cur ++ [c]) v' w' := by
  have hl := h.len
  have hle := h.le
  refine ⟨own_snoc (ys := [c]) hown, (h.gr.alloc o).step hg ?_, hn, ?_, by simp; omega, .inl (by omega), by omega⟩
  · rcases hat with e | e
    · exact .inl e
    · exact .inr ⟨_, e, by simp⟩
  · rw [h.val, hd, SP_bare _ _ h0 h1 h2]

theorem IRel.quote {zs : List Int} {B k : Nat} {accs : List (List Int)} {wo : World} {j : Nat} {cur : List Int} {v5 : Value} {wx : World} (h : IRel zs B k accs wo j cur v5 wx) {f : List Int → Option (List Int × Nat)} {q : Int} (hd : zs.drop j = q :: zs.drop (j + 1))
    (hq : SP (some cur) (q :: zs.drop (j + 1)) = (match f (zs.drop (j + 1)) with | none => none | some (d, n) => if okAfter ((zs.drop (j + 1)).drop n) = true then SP (some (cur ++ d)) ((zs.drop (j + 1)).drop n) else none))
    {d : List Int} {m : Nat} (hf : f (zs.drop (j + 1)) = some (d, m)) (hdl : d.length ≤ m) {v' : Value} {w' : World} (ho : Own B w' v' (cur ++ d)) (hg : Gr wx v5 w' v') (hn : v' = .slice none 0 0 ↔ v5 = .slice none 0 0 ∧ d = [])
    (ha : okAfter (zs.drop (j + (1 + m))) = true) : IRel zs B k accs wo (j + (1 + m)) (cur ++ d) v' w' := by
  have hl := h.len
  have hle := h.le
  refine ⟨ho, h.gr.trans hg, fun e => h.nn (hn.1 e).1, ?_, by simp; omega, .inl (by omega), by omega⟩
  rw [h.val, hd, hq, hf]
  simp only [List.drop_drop]
  rw [show j + 1 + m = j + (1 + m) by omega, if_pos ha]

theorem IRel.none {zs : List Int} {w : World} {B k : Nat} {v : Value} {accs : List (List Int)} {wo : World} {j : Nat} {cur : List Int} {v5 : Value} {wx w' : World} (S : SRel zs w k v wo accs) (h : IRel zs B k accs wo j cur v5 wx) (hv : SP (some cur) (zs.drop j) = Option.none) {v' : Value} (hg : Gr wx v5 w' v') :
    SPost w (SP Option.none zs) (.returned (.tuple #[.slice Option.none 0 0, .bool false])) w' := by
  rw [h.val, hv]
  have b2 : Below wo.heap.size wo w' := ((Below.refl _ _).alloc (Nat.le_refl _) _).trans ((h.gr.trans hg).below (by simp) (fun q hq => by simp [Value.ownBlock] at hq; omega))
  exact ⟨rfl, S.bel.trans (b2.mono S.bel.size)⟩

end Go.Proofs.Qxb6603819a
