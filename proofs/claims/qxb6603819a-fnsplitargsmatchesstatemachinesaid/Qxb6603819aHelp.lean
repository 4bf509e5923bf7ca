/-
  Shared helpers, walked: 'cloneBytes', 'sameBytes'. 'Sm w w'': w' is w but for draws.
-/
import Derived.Test.Qxb6603819aBase
import Derived.WalkSpells
import Derived.Deep.QuietTactic
import Derived.BigQuiet
namespace Go.Proofs.Qxb6603819a
open Go.RowKit

/-- The same world but for how many answers have been drawn. -/
structure Sm (w w' : World) : Prop where
  heap : w'.heap = w.heap
  os : w'.os = w.os
  tape : w'.tape = w.tape
  output : w'.output = w.output

theorem Sm.refl (w : World) : Sm w w := ⟨rfl, rfl, rfl, rfl⟩
theorem Sm.trans {a b c : World} (h : Sm a b) (k : Sm b c) : Sm a c := ⟨k.heap.trans h.heap, k.os.trans h.os, k.tape.trans h.tape, k.output.trans h.output⟩
theorem Sm.drewN (w : World) (n : Nat) : Sm w (w.drewN n) := ⟨rfl, rfl, rfl, rfl⟩
theorem Sm.below {w w' : World} (h : Sm w w') (B : Nat) : Below B w w' := ⟨h.os, h.tape, h.output, by rw [h.heap]; exact Nat.le_refl _, fun k _ => by rw [h.heap]⟩
theorem Sm.cell {w w' : World} (h : Sm w w') (a : Addr) : w'.cell? a = w.cell? a := World.cell?_of_block (by rw [h.heap])
theorem Sm.rd {w w' : World} (h : Sm w w') {a : Option Addr} {n : Nat} {zs : List Int} (r : Rd w a n zs) : Rd w' a n zs :=
  ⟨r.hlen, r.b8, fun hp => by obtain ⟨b, off, e, hc⟩ := r.cells hp; exact ⟨b, off, e, fun i hi => (h.cell _).trans (hc i hi)⟩⟩
theorem Sm.own {w w' : World} (h : Sm w w') {B : Nat} {v : Value} {zs : List Int} (r : Own B w v zs) : Own B w' v zs := by
  unfold Own World.ownsRow at *; rw [h.heap]; exact r

theorem Below.own {B : Nat} {w w' : World} {v : Value} {zs : List Int} {B0 : Nat} (h : Below B w w') (r : Own B0 w v zs) (hB : w.heap.size ≤ B) : Own B0 w' v zs := by
  refine ⟨r.1, ?_⟩
  rcases r.2 with h1 | ⟨g, cap, cur, h1, h2, h3, r4⟩
  · exact .inl h1
  · have := (Array.getElem?_eq_some_iff.1 h3).1
    exact .inr ⟨g, cap, cur, h1, h2, by rw [h.block g (by omega)]; exact h3, r4⟩

theorem own_mono {B B' : Nat} {w : World} {v : Value} {zs : List Int} (r : Own B w v zs) (h : B' ≤ B) : Own B' w v zs := by
  refine ⟨r.1, ?_⟩
  rcases r.2 with h1 | ⟨g, cap, cur, h1, h2, r4⟩
  · exact .inl h1
  · exact .inr ⟨g, cap, cur, h1, by omega, r4⟩

set_option maxHeartbeats 400000 in
theorem clone_any (a : Option Addr) (len cap : Nat) (zs : List Int) (w : World) (h : Rd w a len zs) (hn : a = none → len = 0) (hm : len ≤ 1000000) (hold : ∀ x, a = some x → 0 < len → x.block < w.heap.size) :
    Calls Try.prog 10 #[.slice a len cap] w fun e w' => ∃ u n c, e = .returned (.slice u n c) ∧ Own w.heap.size w' (.slice u n c) zs ∧ Below w.heap.size w w' ∧ (u.isNone = a.isNone) := by
  have hq := fun w x => Lib.run_eql_slice_nil (P := Try.prog) w 22 5 x len cap 0 0 Try.underlying22
  obtain ⟨i0, hi, hz0, hz1, hz2⟩ := info_parts Try.info5
  cases a with
  | none =>
    have := hn rfl
    subst this
    go_enter Try.func10, Try.ntmps10
    go_wp2
    go_ret
    refine ⟨none, 0, 0, rfl, ?_, Below.refl _ _, rfl⟩
    have := List.eq_nil_of_length_eq_zero h.hlen
    subst this
    exact World.ownsRow_nil _ _ _ _
  | some x =>
    have HL : Hid (zs.length = len) := h.hlen
    go_enter Try.func10, Try.ntmps10
    go_wp2_with (at_make; refine wpList_make_full _ rfl _ _ 22 rfl w.heap.size 5 i0 (.int .u8 0) 1 Try.underlying22 hi hz0 hz1 _ _ _ _ len rfl rfl (by omega) (by omega) ?b2 ?b3 ?b4 ?_)
    case b2 => rw [hz2]; omega
    case b3 => unfold maxLen; omega
    case b4 => exact Nat.le_refl _
    intro w1 hown hgrow
    have hbel1 := (Below.refl w.heap.size w).grown hgrow (Nat.le_refl _) (by simp)
    have hcp := Cp.start zs hown
    clear hown hgrow
    go_wp2
    go_loopw [4] (fun i wr => ∃ k : Nat, k ≤ len ∧ i = .int .i64 k ∧ Cp w.heap.size w.heap.size wr len k zs ∧ Below w.heap.size w wr) (fun i _ => len - (intOf i).toNat)
    case atStart => exact ⟨0, by omega, rfl, hcp, hbel1⟩
    case round =>
      clear hcp hbel1
      obtain ⟨k, hk, rfl, hcp2, hbel2⟩ := hrel
      by_cases hlt : k < len
      · obtain ⟨b, off, hx, hc⟩ := h.cells (by omega)
        have hxb := hold _ rfl (by omega)
        simp only [Option.some.injEq] at hx
        subst hx
        have hck : wr.cell? ⟨b, off + k, none⟩ = some (.int .u8 (zs[k]?.getD 0)) := by
          rw [hbel2.cell (by exact hxb), hc k hlt]; simp
        obtain ⟨y, hy⟩ := hcp2.cell hlt
        have hf2 := hcp2.free k
        clear hc
        go_wp2
        go_roundw
        case rel => exact ⟨k + 1, by omega, by go_num, hcp2.put hlt (by rw [HL.out]; exact hlt), hbel2.setCell (Nat.le_refl _) _⟩
        case measure => simp [intOf]; omega
      · have hk2 : Hid (k = len) := by show k = len; omega
        go_wp2
        go_ret
        refine ⟨_, _, _, rfl, ?_, hbel2, rfl⟩
        exact (hk2.out ▸ hcp2).done HL.out

theorem take_eq_step {x y : List Int} {k : Nat} (hx : k < x.length) (hy : k < y.length) (h : x.take k = y.take k) (e : x[k]?.getD 0 = y[k]?.getD 0) : x.take (k + 1) = y.take (k + 1) := by
  rw [List.take_succ_eq_append_getElem hx, List.take_succ_eq_append_getElem hy, h]
  rw [List.getElem?_eq_getElem hx, List.getElem?_eq_getElem hy] at e
  have e' : x[k] = y[k] := e
  rw [e']
theorem ne_of_at {x y : List Int} {k : Nat} (e : x[k]?.getD 0 ≠ y[k]?.getD 0) : (x == y) = false := by
  rw [beq_eq_false_iff_ne]
  intro h; subst h; exact e rfl

set_option maxHeartbeats 400000 in
theorem same_any (a : Option Addr) (n c : Nat) (x : List Int) (b : Option Addr) (m d : Nat) (y : List Int) (w : World) (ha : Rd w a n x) (hb : Rd w b m y) (hm : n ≤ 100000000) (hm2 : m ≤ 100000000) :
    Calls Try.prog 13 #[.slice a n c, .slice b m d] w fun e w' => e = .returned (.bool (x == y)) ∧ Sm w w' := by
  have HX : Hid (x.length = n) := ha.hlen
  have HY : Hid (y.length = m) := hb.hlen
  by_cases hnm : n = m
  · subst hnm
    have hnn : ((n : Int) != (n : Int)) = false := by simp
    go_enter Try.func13, Try.ntmps13
    go_wp2
    go_loopw [5] (fun i wr => ∃ k : Nat, k ≤ n ∧ i = .int .i64 k ∧ Hid (x.take k = y.take k) ∧ Sm w wr) (fun i _ => n - (intOf i).toNat)
    case atStart => exact ⟨0, by omega, rfl, rfl, Sm.refl _⟩
    case round =>
      obtain ⟨k, hk, rfl, HT, hsm⟩ := hrel
      by_cases hlt : k < n
      · obtain ⟨b1, o1, rfl, hc1⟩ := ha.cells (by omega)
        obtain ⟨b2, o2, rfl, hc2⟩ := hb.cells (by omega)
        have g1 : wr.cell? ⟨b1, o1 + k, none⟩ = some (.int .u8 (x[k]?.getD 0)) := by rw [hsm.cell, hc1 k hlt]; simp
        have g2 : wr.cell? ⟨b2, o2 + k, none⟩ = some (.int .u8 (y[k]?.getD 0)) := by rw [hsm.cell, hc2 k hlt]; simp
        have hlt' : (k : Int) < n := by omega
        have B1 : Hid (B8 x) := ha.b8
        clear hc1 hc2 ha hb
        by_cases he : x[k]?.getD 0 = y[k]?.getD 0
        · have hE : (x[k]?.getD 0 != y[k]?.getD 0) = false := by simp [he]
          have HE : Hid (x[k]?.getD 0 = y[k]?.getD 0) := he
          clear he
          go_wp2
          go_quiet (fail)
          go_wp2
          go_roundw
          case rel => exact ⟨k + 1, by omega, by go_num, take_eq_step (by rw [HX.out]; exact hlt) (by rw [HY.out]; exact hlt) HT.out HE.out, hsm.trans (Sm.drewN _ _)⟩
          case measure => simp [intOf]; omega
        · have hE : (x[k]?.getD 0 != y[k]?.getD 0) = true := by simp [he]
          have HE : Hid (x[k]?.getD 0 ≠ y[k]?.getD 0) := he
          clear he
          go_wp2
          go_quiet (fail)
          go_wp2
          go_ret
          exact ⟨by rw [ne_of_at HE.out]; rfl, hsm.trans (Sm.drewN _ _)⟩
      · have HK : Hid (k = n) := by show k = n; omega
        go_wp2
        go_ret
        refine ⟨?_, hsm⟩
        have := HT.out
        rw [HK.out, List.take_of_length_le (by rw [HX.out]; exact Nat.le_refl _), List.take_of_length_le (by rw [HY.out]; exact Nat.le_refl _)] at this
        rw [this, beq_self_eq_true]; rfl
  · have hnn : ((n : Int) != (m : Int)) = true := by simp; omega
    have he : (x == y) = false := by
      rw [beq_eq_false_iff_ne]
      intro h; subst h; exact hnm (HX.out.symm.trans HY.out)
    rw [he]
    clear he
    go_enter Try.func13, Try.ntmps13
    go_wp2
    go_ret
    exact ⟨rfl, Sm.refl _⟩

end Go.Proofs.Qxb6603819a
