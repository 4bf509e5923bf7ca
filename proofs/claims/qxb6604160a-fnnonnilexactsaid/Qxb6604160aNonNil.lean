/-
  'FnNonNilExact' walked.
-/
import Derived.Test.Qxb6604160aBase
namespace Go.Proofs.Qxb6604160a
open Go.RowKit

/-- A copy under way: the new row g of n strings holds the first k of ss, then empty strings. -/
def Cps (B g : Nat) (w : World) (n k : Nat) (ss : List ByteArray) : Prop := w.ownsRow B 9 1 (.slice (some ⟨g, 0, none⟩) n n) n ((ss.take k).map Value.string ++ List.replicate (n - k) (Value.string ByteArray.empty))

theorem Cps.start {B g : Nat} {w : World} {n : Nat} (s : List ByteArray) (h : w.ownsRow B 9 1 (.slice (some ⟨g, 0, none⟩) n n) n (madeCells #[Value.string ByteArray.empty] n).toList) : Cps B g w n 0 s := by
  rw [toList_madeCells_one] at h
  simpa [Cps] using h
theorem Cps.cell {B g : Nat} {w : World} {n k : Nat} {s : List ByteArray} (h : Cps B g w n k s) (hk : k < n) : ∃ v, w.cell? ⟨g, k, none⟩ = some v := by
  rw [World.ownsRow.cellAt h k (by omega)]
  have := h.1
  exact ⟨_, List.getElem?_eq_getElem (by omega)⟩
theorem Cps.free {B g : Nat} {w : World} {n k : Nat} {s : List ByteArray} (h : Cps B g w n k s) (j : Nat) : w.frozen? ⟨g, j, none⟩ = false := World.ownsRow.frozenAt h j
theorem Cps.put {B g : Nat} {w : World} {n k : Nat} {s : List ByteArray} (h : Cps B g w n k s) (hk : k < n) (hs : k < s.length) : Cps B g (w.setCell ⟨g, k, none⟩ (.string (s.getD k ByteArray.empty))) n (k + 1) s := by
  have h2 := (World.ownsRow.stored h k (.string (s.getD k ByteArray.empty))).1
  unfold Cps
  have e : ((s.take k).map Value.string ++ List.replicate (n - k) (Value.string ByteArray.empty)).set k (.string (s.getD k ByteArray.empty)) = (s.take (k + 1)).map Value.string ++ List.replicate (n - (k + 1)) (Value.string ByteArray.empty) := by
    rw [List.set_append, if_neg (by simp; omega)]
    have hl : ((s.take k).map Value.string).length = k := by simp; omega
    rw [hl, Nat.sub_self, show n - k = (n - (k + 1)) + 1 by omega, List.replicate_succ, List.set_cons_zero, List.take_succ_eq_append_getElem hs, List.getD_eq_getElem?_getD, List.getElem?_eq_getElem hs, List.map_append, List.append_assoc]
    rfl
  rw [← e]; exact h2
theorem Cps.at {B g : Nat} {w : World} {n : Nat} {s : List ByteArray} (h : Cps B g w n n s) (hs : s.length = n) (i : Nat) (hi : i < n) : w.cell? ⟨g, i, none⟩ = some (.string (s.getD i ByteArray.empty)) := by
  rw [World.ownsRow.cellAt h i (by omega), List.take_of_length_le (by omega), Nat.sub_self]
  simp [hs, hi]

/-- The same world but for how many answers have been drawn. -/
structure Sm (w w' : World) : Prop where
  heap : w'.heap = w.heap
  os : w'.os = w.os
  tape : w'.tape = w.tape
  output : w'.output = w.output
theorem Sm.refl (w : World) : Sm w w := ⟨rfl, rfl, rfl, rfl⟩
theorem Sm.trans {a b c : World} (h : Sm a b) (k : Sm b c) : Sm a c := ⟨k.heap.trans h.heap, k.os.trans h.os, k.tape.trans h.tape, k.output.trans h.output⟩
theorem Sm.drewN (w : World) (n : Nat) : Sm w (w.drewN n) := ⟨rfl, rfl, rfl, rfl⟩
theorem Sm.below {w w' : World} (h : Sm w w') (B : Nat) : Below B w w' := ⟨h.os, h.tape, h.output, by rw [h.heap]; exact Nat.le_refl _, fun k _ => by rw [h.heap]⟩
theorem Sm.cell {w w' : World} (h : Sm w w') (a : Addr) : w'.cell? a = w.cell? a := World.cell?_of_block (by rw [h.heap])

theorem ptr_equalIn (w : World) (d : Nat) (p : Addr) : (Op.equalIn (d + 1) 31 (.pointer (some p)) (.pointer (some p))).run Try.prog w = .ok true w := by
  simp [Op.equalIn, run_underlying Try.underlying31, samePointer, sameAddr]
theorem ptr_neq (w : World) (p : Addr) : (binOp .neq 31 (.pointer (some p)) (.pointer (some p))).run Try.prog w = .ok (.bool false) w := by
  simp only [binOp]
  simp [show (Op.equal 31 (.pointer (some p)) (.pointer (some p))).run Try.prog w = .ok true w from ptr_equalIn w 9999 p]

set_option maxRecDepth 100000 in
set_option maxHeartbeats 2000000 in
theorem nonnil_walk (a : Option Addr) (len cap : Nat) (ss : List ByteArray) (w : World) (h : RdS w a len ss) :
    Calls Try.prog 5 #[.slice a len cap] w fun e w' => e = .returned (.bool true) ∧ Below w.heap.size w w' := by
  have hq := fun w x n c => Lib.run_eql_slice_nil (P := Try.prog) w 28 9 x n c 0 0 Try.underlying28
  have hq2 := fun w x n c => run_neq_slice_nil_any (P := Try.prog) w 28 9 x n c 0 0 Try.underlying28
  obtain ⟨i0, hi, hz0, hz1, hz2⟩ := info_parts Try.info9
  have hm := h.max
  go_enter Try.func5, Try.ntmps5
  go_wp2_with fail
  refine (zz10 a len cap ss _ h).mono ?_
  rintro e w1 ⟨p, rfl, hw⟩
  have hw := hw.symm
  subst hw
  cases p with
  | false =>
    go_wp2
    go_ret
    exact ⟨rfl, Below.refl _ _⟩
  | true =>
    by_cases h1 : len ≤ 65536
    · go_wp2
      go_loop [3, 4] (fun z i => ∃ k : Nat, ∃ t : Int, k ≤ len ∧ i = .int .i64 k ∧ z = .int .i64 t ∧ 0 ≤ t ∧ t ≤ 1048576) (fun _ i => len - (intOf i).toNat)
      case atStart => exact ⟨0, 0, Nat.zero_le _, rfl, rfl, by omega, by omega⟩
      case round =>
        obtain ⟨k, t, hk, rfl, rfl, ht0, ht1⟩ := hrel
        by_cases hlt : k < len
        · obtain ⟨b, off, rfl, _, hc⟩ := h.cells (by omega)
          have hck := hc k hlt
          have hs := h.small k
          generalize ss.getD k ByteArray.empty = s at *
          clear hc
          by_cases h2 : s.size ≤ 1048576
          · by_cases h3 : t + (16 + s.size) ≤ 1048576
            · go_wp2
              go_round
              case rel => exact ⟨k + 1, t + (16 + s.size), by omega, by go_num, rfl, by omega, by omega⟩
              case measure => simp [intOf]; omega
            · go_wp2
              go_ret
              exact ⟨rfl, Below.refl _ _⟩
          · go_wp2
            go_ret
            exact ⟨rfl, Below.refl _ _⟩
        · clear hk ht0 ht1
          cases a with
          | none =>
            obtain rfl := h.nil rfl
            clear h
            go_wp2_with fail
            refine (zznonNil_nil w).mono ?_
            rintro e w2 ⟨rfl, rfl⟩
            go_wp2
            go_ret
            exact ⟨rfl, (Below.refl _ _).alloc (Nat.le_refl _) _⟩
          | some x =>
            go_wp2_with (at_make; refine wpList_make_full _ rfl _ _ 28 rfl w.heap.size 9 i0 (.string ByteArray.empty) 1 Try.underlying28 hi hz0 hz1 _ _ _ _ len rfl rfl (by omega) (by omega) ?b2 ?b3 (Nat.le_refl _) ?_)
            case b2 => first | omega | (rw [hz2]; omega)
            case b3 => unfold maxLen; omega
            intro w1 hown hgrow
            have hbel1 := (Below.refl w.heap.size w).grown hgrow (Nat.le_refl _) (by simp)
            have hcp := Cps.start ss hown
            clear hown hgrow
            go_wp2
            go_loopw [6] (fun i wr => ∃ k : Nat, k ≤ len ∧ i = .int .i64 k ∧ Cps w.heap.size w.heap.size wr len k ss ∧ Below w.heap.size w wr) (fun i _ => len - (intOf i).toNat)
            case atStart => exact ⟨0, by omega, rfl, hcp, hbel1⟩
            case round =>
              clear hcp hbel1
              obtain ⟨k, hk, rfl, hcp2, hbel2⟩ := hrel
              by_cases hlt : k < len
              · obtain ⟨b, off, hx, hb, hc⟩ := h.cells (by omega)
                simp only [Option.some.injEq] at hx
                subst hx
                have hck : wr.cell? ⟨b, off + k, none⟩ = some (.string (ss.getD k ByteArray.empty)) := by
                  rw [hbel2.cell (by exact hb), hc k hlt]
                obtain ⟨y, hy⟩ := hcp2.cell hlt
                have hf2 := hcp2.free k
                have HP := hid (hcp2.put hlt (by rw [h.hlen]; exact hlt))
                generalize ss.getD k ByteArray.empty = s at *
                clear hc
                go_wp2
                go_roundw
                case rel => exact ⟨k + 1, by omega, by go_num, HP.out, hbel2.setCell (Nat.le_refl _) _⟩
                case measure => simp [intOf]; omega
              · have hk2 : k = len := by omega
                subst hk2
                have hat := hcp2.at h.hlen
                have hat' : Hid (∀ i, i < k → wr.cell? ⟨w.heap.size, i, none⟩ = some (.string (ss.getD i ByteArray.empty))) := hat
                clear hat hlt
                by_cases h0 : k = 0
                · subst h0
                  go_wp2_with fail
                  refine (zznonNil_some _ _ _ _).mono ?_
                  rintro e w2 ⟨rfl, hw⟩
                  have hw := hw.symm
                  subst hw
                  go_wp2
                  go_ret
                  exact ⟨rfl, hbel2⟩
                · have hE : ((k : Int) == 0) = false := by simp; omega
                  have hkk : ((k : Int) != (k : Int)) = false := by simp
                  have hp : (0 : Int) < k := by omega
                  go_wp2_with fail
                  refine (zznonNil_some _ _ _ _).mono ?_
                  rintro e w2 ⟨rfl, hw⟩
                  have hw := hw.symm
                  subst hw
                  obtain ⟨wo, hwo⟩ : ∃ wo, wo = wr := ⟨_, rfl⟩
                  subst hwo
                  have hpt := fun wx => ptr_neq wx ⟨w.heap.size, 0, none⟩
                  go_wp2
                  go_quiet (fail)
                  go_wp2
                  go_loopw [8] (fun i wx => ∃ j : Nat, j ≤ k ∧ i = .int .i64 j ∧ Sm wo wx) (fun i _ => k - (intOf i).toNat)
                  case atStart => exact ⟨0, by omega, rfl, Sm.drewN _ _⟩
                  case round =>
                    obtain ⟨j, hj, rfl, hsm⟩ := hrel
                    by_cases hjl : j < k
                    · obtain ⟨b, off, hx, hb, hc⟩ := h.cells (by omega)
                      simp only [Option.some.injEq] at hx
                      subst hx
                      have hck : wr.cell? ⟨b, off + j, none⟩ = some (.string (ss.getD j ByteArray.empty)) := by
                        rw [hsm.cell, hbel2.cell (by exact hb), hc j hjl]
                      have hcg : wr.cell? ⟨w.heap.size, j, none⟩ = some (.string (ss.getD j ByteArray.empty)) := by
                        rw [hsm.cell]; exact hat'.out j hjl
                      generalize ss.getD j ByteArray.empty = s at *
                      have hjk : (j : Int) < k := by omega
                      clear hc
                      go_wp2
                      go_quiet (fail)
                      go_wp2
                      go_quiet (fail)
                      go_wp2
                      go_roundw
                      case rel => exact ⟨j + 1, by omega, by go_num, ⟨hsm.heap, hsm.os, hsm.tape, hsm.output⟩⟩
                      case measure => simp [intOf]; omega
                    · go_wp2
                      go_ret
                      exact ⟨rfl, hbel2.trans (hsm.below _)⟩
    · go_wp2
      go_ret
      exact ⟨rfl, Below.refl _ _⟩

end Go.Proofs.Qxb6604160a
