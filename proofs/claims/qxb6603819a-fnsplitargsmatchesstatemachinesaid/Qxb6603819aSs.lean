/-
  A slice of slices of bytes that came in ('ArgSS'), and one that the call has copied ('CA'); 'sameBytes' once more, as a callee that only draws; 'cloneArgs' walked.
-/
import Derived.Test.Qxb6603819aLists
import Derived.Test.Qxb6603819aArg
namespace Go.Proofs.Qxb6603819a
open Go.RowKit

set_option maxHeartbeats 400000 in
theorem same_quiet (a : Option Addr) (n c : Nat) (x : List Int) (b : Option Addr) (m d : Nat) (y : List Int) (w : World) (ha : Rd w a n x) (hb : Rd w b m y) (hm : n ≤ 100000000) (hm2 : m ≤ 100000000) (he : x = y) :
    Calls Try.prog 13 #[.slice a n c, .slice b m d] w fun e w' => e = .returned (.bool true) ∧ ∃ q, w' = w.drewN q := by
  subst he
  have HX : Hid (x.length = n) := ha.hlen
  have hnm : n = m := ha.hlen.symm.trans hb.hlen
  subst hnm
  have hnn : ((n : Int) != (n : Int)) = false := by simp
  go_enter Try.func13, Try.ntmps13
  go_wp2
  go_loopw [5] (fun i wr => ∃ k : Nat, k ≤ n ∧ i = .int .i64 k ∧ Sm w wr ∧ Hid (∃ q, wr = w.drewN q)) (fun i _ => n - (intOf i).toNat)
  case atStart => exact ⟨0, by omega, rfl, Sm.refl _, 0, by simp [World.drewN]⟩
  case round =>
    obtain ⟨k, hk, rfl, hsm, HQ⟩ := hrel
    by_cases hlt : k < n
    · obtain ⟨b1, o1, rfl, hc1⟩ := ha.cells (by omega)
      obtain ⟨b2, o2, rfl, hc2⟩ := hb.cells (by omega)
      have g1 : wr.cell? ⟨b1, o1 + k, none⟩ = some (.int .u8 (x[k]?.getD 0)) := by rw [hsm.cell, hc1 k hlt]; simp
      have g2 : wr.cell? ⟨b2, o2 + k, none⟩ = some (.int .u8 (x[k]?.getD 0)) := by rw [hsm.cell, hc2 k hlt]; simp
      have hlt' : (k : Int) < n := by omega
      clear hc1 hc2 ha hb
      have hE : (x[k]?.getD 0 != x[k]?.getD 0) = false := by simp
      go_wp2
      go_quiet (fail)
      go_wp2
      go_roundw
      case rel =>
        refine ⟨k + 1, by omega, by go_num, hsm.trans (Sm.drewN _ _), ?_⟩
        obtain ⟨q, e⟩ := HQ.out
        exact ⟨q + nq, by rw [e, World.drewN_drewN]⟩
      case measure => simp [intOf]; omega
    · go_wp2
      go_ret
      exact ⟨rfl, HQ.out⟩

/-- A slice of slices of bytes that came in. -/
structure ArgSS (w : World) (a : Option Addr) (len : Nat) (zss : List (List Int)) : Prop where
  hlen : zss.length = len
  nil : a = none → len = 0
  max : len ≤ 9223372036854775807
  cells : 0 < len → ∃ b off, a = some ⟨b, off, none⟩ ∧ b < w.heap.size ∧ ∀ i, i < len → ∃ u n c, w.cell? ⟨b, off + i, none⟩ = some (.slice u n c) ∧ Arg w u n (zss.getD i [])

theorem ArgSS.mono {w w' : World} {a : Option Addr} {len : Nat} {zss : List (List Int)} (h : ArgSS w a len zss) (hb : Below w.heap.size w w') : ArgSS w' a len zss := by
  refine ⟨h.hlen, h.nil, h.max, fun hp => ?_⟩
  obtain ⟨b, off, rfl, hlt, hc⟩ := h.cells hp
  refine ⟨b, off, rfl, Nat.lt_of_lt_of_le hlt hb.size, fun i hi => ?_⟩
  obtain ⟨u, n, c, h1, h2⟩ := hc i hi
  exact ⟨u, n, c, (hb.cell (by exact hlt)).trans h1, h2.mono hb (Nat.le_refl _)⟩

def ElemsC (B : Nat) (w : World) (vs : List Value) (zss : List (List Int)) : Prop := ∀ (i : Nat) (x : Value), vs[i]? = some x → Own B w x (zss.getD i [])
/-- A slice of slices of the call's own. -/
def CA (B : Nat) (w : World) (v : Value) (zss : List (List Int)) : Prop := ∃ vs : List Value, w.ownsRow B 22 1 v zss.length vs ∧ ElemsC B w vs zss

theorem ElemsC.keep {B : Nat} {w w' : World} {vs : List Value} {zss : List (List Int)} (h : ElemsC B w vs zss) (hb : Below w.heap.size w w') : ElemsC B w' vs zss :=
  fun i x hx => Below.own hb (h i x hx) (Nat.le_refl _)
theorem rowc_keep {B : Nat} {w w' : World} {e : TypeId} {v : Value} {n : Nat} {vs : List Value} (h : w.ownsRow B e 1 v n vs) (hb : Below w.heap.size w w') : w'.ownsRow B e 1 v n vs :=
  row_keep h (fun k hk => (World.ownsRow.lt h k hk).2) (fun k hk => hb.block k hk)
theorem CA.keep {B : Nat} {w w' : World} {v : Value} {zss : List (List Int)} (h : CA B w v zss) (hb : Below w.heap.size w w') : CA B w' v zss := by
  obtain ⟨vs, h1, h2⟩ := h
  exact ⟨vs, rowc_keep h1 hb, h2.keep hb⟩

/-- The copy under way: k slices are in. -/
structure CC (B : Nat) (zss : List (List Int)) (w : World) (n k : Nat) (vs : List Value) (wr : World) : Prop where
  len : vs.length = k
  row : wr.ownsRow B 22 1 (.slice (some ⟨B, 0, none⟩) n n) n (vs ++ List.replicate (n - k) (.slice none 0 0))
  els : ElemsC B wr vs zss
  bel : Below B w wr

theorem CC.put {B : Nat} {zss : List (List Int)} {w : World} {n k : Nat} {vs : List Value} {wr w1 : World} (h : CC B zss w n k vs wr) (hB : B ≤ wr.heap.size) (hk : k < n) {x : Value} (ho : Own wr.heap.size w1 x (zss.getD k [])) (hb : Below wr.heap.size wr w1) :
    CC B zss w n (k + 1) (vs ++ [x]) (w1.setCell ⟨B, k, none⟩ x) := by
  have hl := h.len
  have r1 := rowc_keep h.row hb
  have st := World.ownsRow.stored r1 k x
  have e : (vs ++ List.replicate (n - k) (Value.slice none 0 0)).set k x = (vs ++ [x]) ++ List.replicate (n - (k + 1)) (.slice none 0 0) := by
    rw [List.set_append, if_neg (by omega), hl, Nat.sub_self, show n - k = (n - (k + 1)) + 1 by omega, List.replicate_succ, List.set_cons_zero, List.append_assoc]
    rfl
  have tr : ∀ y ys, Own B w1 y ys → Own B (w1.setCell ⟨B, k, none⟩ x) y ys := fun y ys hy => World.ownsRow.kept hy st.2 (own_ne_row hy r1)
  refine ⟨by simp [hl], by rw [← e]; exact st.1, fun i y hy => ?_, (h.bel.trans (hb.mono hB)).setCell (Nat.le_refl _) _⟩
  by_cases hi : i < vs.length
  · rw [List.getElem?_append_left hi] at hy
    exact tr y _ (h.els.keep hb i y hy)
  · rw [List.getElem?_append_right (by omega)] at hy
    have h0 : i - vs.length = 0 := by
      have := (List.getElem?_eq_some_iff.1 hy).1
      simp at this; omega
    rw [h0] at hy
    simp at hy
    subst hy
    rw [show i = k by omega]
    exact tr x _ (own_mono ho hB)

set_option maxHeartbeats 1000000 in
theorem cloneArgs_walk (a : Option Addr) (len cap : Nat) (zss : List (List Int)) (w : World) (h : ArgSS w a len zss) (hm : len ≤ 1000000) (hs : ∀ i, (zss.getD i []).length ≤ 1000000) :
    Calls Try.prog 20 #[.slice a len cap] w fun e w' => ∃ u n c, e = .returned (.slice u n c) ∧ CA w.heap.size w' (.slice u n c) zss ∧ Below w.heap.size w w' ∧ n = len := by
  have hq := fun w x => Lib.run_eql_slice_nil (P := Try.prog) w 30 22 x len cap 0 0 Try.underlying30
  obtain ⟨i0, hi, hz0, hz1, hz2⟩ := info_parts Try.info22
  have HL : Hid (zss.length = len) := h.hlen
  cases a with
  | none =>
    obtain rfl := h.nil rfl
    obtain rfl := List.eq_nil_of_length_eq_zero h.hlen
    clear h
    go_enter Try.func20, Try.ntmps20
    go_wp2
    go_ret
    exact ⟨none, 0, 0, rfl, ⟨[], World.ownsRow_nil _ _ _ _, fun i x hx => by simp at hx⟩, Below.refl _ _, rfl⟩
  | some x =>
    go_enter Try.func20, Try.ntmps20
    go_wp2_with (at_make; refine wpList_make_full _ rfl _ _ 30 rfl w.heap.size 22 i0 (.slice none 0 0) 1 Try.underlying30 hi hz0 hz1 _ _ _ _ len rfl rfl (by omega) (by omega) ?b2 ?b3 (Nat.le_refl _) ?_)
    case b2 => first | omega | (rw [hz2]; omega)
    case b3 => unfold maxLen; omega
    intro w1 hown hgrow
    have C0 : Hid (CC w.heap.size zss w len 0 [] w1) := by
      refine ⟨rfl, ?_, fun i x hx => by simp at hx, (Below.refl w.heap.size w).grown hgrow (Nat.le_refl _) (by simp)⟩
      rw [toList_madeCells_one] at hown
      simpa using hown
    clear hown hgrow
    go_wp2
    go_loopw [4] (fun i wr => ∃ k : Nat, ∃ vs : List Value, k ≤ len ∧ i = .int .i64 k ∧ CC w.heap.size zss w len k vs wr) (fun i _ => len - (intOf i).toNat)
    case atStart => exact ⟨0, [], by omega, rfl, C0.out⟩
    case round =>
      clear C0
      obtain ⟨k, vs, hk, rfl, C⟩ := hrel
      have C := hid C
      by_cases hlt : k < len
      · obtain ⟨b, off, hx, hb, hc⟩ := h.cells (by omega)
        simp only [Option.some.injEq] at hx
        subst hx
        obtain ⟨u, n, c, hck0, harg⟩ := hc k hlt
        have hck : wr.cell? ⟨b, off + k, none⟩ = some (.slice u n c) := by rw [C.out.bel.cell (by exact hb)]; exact hck0
        have harg := hid (harg.mono C.out.bel (Nat.le_refl _))
        have sz := C.out.bel.size
        have hsk := hs k
        have hn : n ≤ 1000000 := by have := harg.out.rd.hlen; omega
        clear hc hck0
        go_wp2_with fail
        refine (clone_arg u n c _ _ harg.out hn).mono ?_
        rintro e w2 ⟨u2, n2, c2, rfl, ho, hb2, _⟩
        have C2 := hid (C.out.put sz hlt ho hb2)
        have r1 := rowc_keep C.out.row hb2
        obtain ⟨y, hy⟩ : ∃ y, w2.cell? ⟨w.heap.size, k, none⟩ = some y := by
          rw [World.ownsRow.cellAt r1 k (by omega)]
          have := r1.1
          exact ⟨_, List.getElem?_eq_getElem (by omega)⟩
        have hf := World.ownsRow.frozenAt r1 k
        clear ho hb2 r1
        go_wp2
        go_roundw
        case rel => exact ⟨k + 1, _, by omega, by go_num, C2.out⟩
        case measure => simp [intOf]; omega
      · have hkl : k = len := by omega
        subst hkl
        go_wp2
        go_ret
        refine ⟨_, _, _, rfl, ⟨vs, ?_, C.out.els⟩, C.out.bel, rfl⟩
        have := C.out.row
        rw [Nat.sub_self] at this
        rw [HL.out]
        simpa using this

end Go.Proofs.Qxb6603819a
