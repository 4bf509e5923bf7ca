/-
  'FnIsUUIDAcceptsEveryFormattedUUID' walked.
-/
import Derived.Test.Qxb6604160aUuid
namespace Go.Proofs.Qxb6604160a
open Go.RowKit

def dash (k : Nat) : List Int := if k = 4 ∨ k = 6 ∨ k = 8 ∨ k = 10 then [45] else []
def two (b : Int) (u : Bool) : List Int := [nib (b / 16) u, nib (b % 16) u]
/-- The text after k bytes, with hyphens and without. -/
def bufL (bs : List Int) (u : Bool) : Nat → List Int
  | 0 => []
  | k + 1 => bufL bs u k ++ dash k ++ two (bs[k]?.getD 0) u
def bareL (bs : List Int) (u : Bool) : Nat → List Int
  | 0 => []
  | k + 1 => bareL bs u k ++ two (bs[k]?.getD 0) u

theorem bare_len (bs : List Int) (u : Bool) (k : Nat) : (bareL bs u k).length = 2 * k := by
  induction k with
  | zero => rfl
  | succ k ih => simp [bareL, two, ih]; omega
def dashes (k : Nat) : Nat := if k ≤ 4 then 0 else if k ≤ 6 then 1 else if k ≤ 8 then 2 else if k ≤ 10 then 3 else 4
theorem dashes_succ (k : Nat) : (dash k).length + dashes k = dashes (k + 1) := by
  by_cases h : k < 11
  · rcases (by omega : k = 0 ∨ k = 1 ∨ k = 2 ∨ k = 3 ∨ k = 4 ∨ k = 5 ∨ k = 6 ∨ k = 7 ∨ k = 8 ∨ k = 9 ∨ k = 10) with rfl | rfl | rfl | rfl | rfl | rfl | rfl | rfl | rfl | rfl | rfl <;> rfl
  · unfold dash dashes
    rw [if_neg (by omega), if_neg (by omega), if_neg (by omega), if_neg (by omega), if_neg (by omega), if_neg (by omega), if_neg (by omega), if_neg (by omega), if_neg (by omega)]
    rfl
theorem buf_len (bs : List Int) (u : Bool) (k : Nat) : (bufL bs u k).length = 2 * k + dashes k := by
  induction k with
  | zero => rfl
  | succ k ih =>
    have := dashes_succ k
    simp only [bufL, List.length_append, ih, two, List.length_cons, List.length_nil]
    omega
theorem dashes_le (k : Nat) : dashes k ≤ 4 := by unfold dashes; (repeat' split) <;> omega
theorem buf_len16 (bs : List Int) (u : Bool) : (bufL bs u 16).length = 36 := by simp [bufL, dash, two]

def goodL (o : Nat) (L : List Int) : Prop := ∀ i : Nat, i < L.length → good (o + i) (L[i]?.getD 0)
theorem goodL_app {o : Nat} {A B : List Int} (h : goodL o A) (k : goodL (o + A.length) B) : goodL o (A ++ B) := by
  intro i hi
  by_cases h1 : i < A.length
  · have := h i h1
    rw [List.getElem?_append_left h1]; exact this
  · have := k (i - A.length) (by simp at hi; omega)
    rw [List.getElem?_append_right (by omega)]
    rw [show o + A.length + (i - A.length) = o + i by omega] at this
    exact this
theorem place_dash : ∀ k : Fin 16, dash k.val = [] ∨ (dash k.val = [45] ∧ (2 * k.val + dashes k.val = 8 ∨ 2 * k.val + dashes k.val = 13 ∨ 2 * k.val + dashes k.val = 18 ∨ 2 * k.val + dashes k.val = 23)) := by decide
theorem place_two : ∀ k : Fin 16, ∀ j : Fin 2, ¬ (2 * k.val + dashes (k.val + 1) + j.val = 8 ∨ 2 * k.val + dashes (k.val + 1) + j.val = 13 ∨ 2 * k.val + dashes (k.val + 1) + j.val = 18 ∨ 2 * k.val + dashes (k.val + 1) + j.val = 23) := by decide
theorem buf_good (bs : List Int) (u : Bool) (hb : ∀ i : Nat, 0 ≤ bs[i]?.getD 0 ∧ bs[i]?.getD 0 ≤ 255) (k : Nat) (hk : k ≤ 16) : goodL 0 (bufL bs u k) := by
  induction k with
  | zero => intro i hi; simp [bufL] at hi
  | succ k ih =>
    have hbk := hb k
    rw [bufL]
    refine goodL_app (goodL_app (ih (by omega)) ?_) ?_
    · rw [buf_len]
      rcases place_dash ⟨k, by omega⟩ with h | ⟨h, hp⟩
      · simp only at h; rw [h]; intro i hi; simp at hi
      · simp only at h hp
        rw [h]
        intro i hi
        simp at hi
        subst hi
        have hp' : 0 + (2 * k + dashes k) + 0 = 8 ∨ 0 + (2 * k + dashes k) + 0 = 13 ∨ 0 + (2 * k + dashes k) + 0 = 18 ∨ 0 + (2 * k + dashes k) + 0 = 23 := by omega
        rw [good, if_pos hp']
        rfl
    · have e : 0 + (bufL bs u k ++ dash k).length = 2 * k + dashes (k + 1) := by
        have := dashes_succ k
        rw [List.length_append, buf_len]; omega
      rw [e]
      intro i hi
      have h2 : i < 2 := by simpa [two] using hi
      have hp := place_two ⟨k, by omega⟩ ⟨i, h2⟩
      simp only at hp
      rw [good, if_neg hp]
      rcases (by omega : i = 0 ∨ i = 1) with rfl | rfl
      · exact (nib_ok u (by omega) (by omega)).1
      · exact (nib_ok u (by omega) (by omega)).1
theorem buf_b8 (bs : List Int) (u : Bool) (hb : ∀ i : Nat, 0 ≤ bs[i]?.getD 0 ∧ bs[i]?.getD 0 ≤ 255) (k : Nat) : ∀ z ∈ bufL bs u k, 0 ≤ z ∧ z ≤ 255 := by
  induction k with
  | zero => intro z hz; simp [bufL] at hz
  | succ k ih =>
    have hbk := hb k
    have n1 := (nib_ok (v := (bs[k]?.getD 0) / 16) u (by omega) (by omega)).2
    have n2 := (nib_ok (v := (bs[k]?.getD 0) % 16) u (by omega) (by omega)).2
    intro z hz
    rw [bufL, List.mem_append, List.mem_append] at hz
    rcases hz with (hz | hz) | hz
    · exact ih z hz
    · unfold dash at hz; split at hz <;> simp at hz; omega
    · simp [two] at hz
      rcases hz with rfl | rfl
      · exact n1
      · exact n2

/-- The string of a list of bytes, as the model makes it. -/
def str (L : List Int) : ByteArray := L.foldl (fun r n => r.push (UInt8.ofNat n.toNat)) ByteArray.empty
theorem push_list (L : List Int) : ∀ a : ByteArray, (L.foldl (fun r n => r.push (UInt8.ofNat n.toNat)) a).data.toList = a.data.toList ++ L.map (fun n => UInt8.ofNat n.toNat) := by
  induction L with
  | nil => intro a; simp
  | cons c r ih => intro a; rw [List.foldl_cons, ih]; simp [ByteArray.push]
theorem str_list (L : List Int) : (str L).data.toList = L.map (fun n => UInt8.ofNat n.toNat) := by
  have := push_list L ByteArray.empty
  simpa [str] using this
theorem str_size (L : List Int) : (str L).size = L.length := by
  have := congrArg List.length (str_list L)
  simpa using this
theorem str_at (L : List Int) (h8 : ∀ z ∈ L, 0 ≤ z ∧ z ≤ 255) (i : Nat) (h : i < (str L).size) : (((str L)[i]'h).toNat : Int) = L[i]?.getD 0 := by
  have hl : i < L.length := by rw [← str_size]; exact h
  have e : (str L)[i]'h = UInt8.ofNat (L[i]).toNat := by
    have := congrArg (fun l => l[i]?) (str_list L)
    simp [hl] at this
    have h2 : (str L).data[i]? = some ((str L)[i]'h) := by
      show (str L).data[i]? = some ((str L).data[i]'h)
      exact Array.getElem?_eq_getElem h
    rw [h2] at this
    simpa using this
  rw [e, List.getElem?_eq_getElem hl]
  have hb := h8 _ (List.getElem_mem hl)
  simp [UInt8.toNat_ofNat']
  omega
theorem str_good (L : List Int) (h : goodL 0 L) (h8 : ∀ z ∈ L, 0 ≤ z ∧ z ≤ 255) (i : Nat) (hi : i < (str L).size) : good i (((str L)[i]'hi).toNat : Int) := by
  rw [str_at L h8 i hi]
  have := h i (by rw [← str_size]; exact hi)
  rw [Nat.zero_add] at this
  exact this
theorem conv_str {wr : World} {g n c : Nat} {L : List Int} {B : Nat} (hlen : L.length = n) (h : wr.ownsRow B 5 1 (.slice (some ⟨g, 0, none⟩) n c) n (L.map (Value.int .u8))) :
    (convert 24 9 (.slice (some ⟨g, 0, none⟩) n c)).run Try.prog wr = .ok (.string (str L)) wr := by
  rw [run_convert_bytes_string wr 24 9 5 _ _ _ Try.underlying24 Try.underlying5 Try.underlying9]
  refine run_bytesToString wr _ n c L ?_
  have := run_loadCells_list (P := Try.prog) wr ⟨g, 0, none⟩ (L.map (Value.int .u8)) (World.ownsRow.cells h rfl)
  rw [List.length_map, hlen] at this
  exact this

structure UR (B g5 g6 : Nat) (bs : List Int) (w : World) (n5 : Nat) (L5 : List Int) (n6 : Nat) (L6 : List Int) (wr : World) : Prop where
  len5 : L5.length = n5
  len6 : L6.length = n6
  own5 : wr.ownsRow (B + 1) 5 1 (.slice (some ⟨g5, 0, none⟩) n5 36) n5 (L5.map (Value.int .u8))
  own6 : wr.ownsRow (B + 1) 5 1 (.slice (some ⟨g6, 0, none⟩) n6 32) n6 (L6.map (Value.int .u8))
  arr : ∀ i : Nat, i < 16 → wr.cell? ⟨B, i, none⟩ = some (.int .u8 (bs[i]?.getD 0))
  bel : Below B w wr
  size : B + 1 ≤ wr.heap.size
  ne : g5 ≠ g6
  ge5 : B + 1 ≤ g5
  ge6 : B + 1 ≤ g6

theorem UR.put5 {B g5 g6 : Nat} {bs : List Int} {w : World} {n5 n6 : Nat} {L5 L6 : List Int} {wr w1 : World} (h : UR B g5 g6 bs w n5 L5 n6 L6 wr) {d : Int} {o : Obj}
    (hown : w1.ownsRow (B + 1) 5 1 (.slice (some ⟨g5, 0, none⟩) (n5 + 1) 36) (n5 + 1) (L5.map (Value.int .u8) ++ [.int .u8 d])) (hg : (wr.alloc o).grownBy w1 (some g5)) : UR B g5 g6 bs w (n5 + 1) (L5 ++ [d]) n6 L6 w1 := by
  have hs := h.size
  have hgs := hg.size
  have h5 := h.ge5
  simp at hgs
  refine ⟨by simp [h.len5], h.len6, by simpa using hown, (World.ownsRow.alloc h.own6 o).kept hg (.inr (by have := h.ne; simp [Value.ownBlock]; omega)), fun i hi => ?_, (h.bel.alloc (by omega) o).grown hg (by simp; omega) (fun k hk => by simp at hk; omega), by omega, h.ne, h.ge5, h.ge6⟩
  exact hg.cell ((World.cell?_alloc_past _ _ _ (by show B < _; omega)).trans (h.arr i hi)) (by simp; omega)
theorem UR.put6 {B g5 g6 : Nat} {bs : List Int} {w : World} {n5 n6 : Nat} {L5 L6 : List Int} {wr w1 : World} (h : UR B g5 g6 bs w n5 L5 n6 L6 wr) {d : Int} {o : Obj}
    (hown : w1.ownsRow (B + 1) 5 1 (.slice (some ⟨g6, 0, none⟩) (n6 + 1) 32) (n6 + 1) (L6.map (Value.int .u8) ++ [.int .u8 d])) (hg : (wr.alloc o).grownBy w1 (some g6)) : UR B g5 g6 bs w n5 L5 (n6 + 1) (L6 ++ [d]) w1 := by
  have hs := h.size
  have hgs := hg.size
  have h6 := h.ge6
  simp at hgs
  refine ⟨h.len5, by simp [h.len6], (World.ownsRow.alloc h.own5 o).kept hg (.inr (by have := h.ne; simp [Value.ownBlock]; omega)), by simpa using hown, fun i hi => ?_, (h.bel.alloc (by omega) o).grown hg (by simp; omega) (fun k hk => by simp at hk; omega), by omega, h.ne, h.ge5, h.ge6⟩
  exact hg.cell ((World.cell?_alloc_past _ _ _ (by show B < _; omega)).trans (h.arr i hi)) (by simp; omega)

set_option maxRecDepth 100000 in
set_option maxHeartbeats 2000000 in
theorem uuid_walk (cs : Array Value) (bs : List Int) (u : Bool) (w : World) (hb : ∀ i : Nat, 0 ≤ bs[i]?.getD 0 ∧ bs[i]?.getD 0 ≤ 255) (hc : ∀ i : Nat, i < 16 → cs[i]? = some (.int .u8 (bs[i]?.getD 0))) :
    Calls Try.prog 4 #[.agg cs, .bool u] w fun e w' => e = .returned (.bool true) ∧ Below w.heap.size w w' := by
  obtain ⟨i0, hi, hz0, hz1, hz2⟩ := info_parts Try.info5
  go_enter Try.func4, Try.ntmps4
  go_wp2_with (at_make; refine wpList_make_own _ rfl _ _ 24 rfl (w.heap.size + 1) 5 i0 (.int .u8 0) 1 Try.underlying24 hi hz0 hz1 _ _ 36 36 rfl rfl rfl ?b2 ?b3 ?b4 ?_)
  case b2 => first | omega | (rw [hz2]; omega)
  case b3 => unfold maxLen; omega
  case b4 => first | omega | (simp; done)
  intro w1 own5 gr5
  have lt5 := (World.ownsRow.lt own5 _ rfl).2
  go_wp2_with (at_make; refine wpList_make_own _ rfl _ _ 24 rfl (w.heap.size + 1) 5 i0 (.int .u8 0) 1 Try.underlying24 hi hz0 hz1 _ _ 32 32 rfl rfl rfl ?b2' ?b3' ?b4' ?_)
  case b3' => unfold maxLen; omega
  case b4' => first | omega | (simp; omega)
  intro w2 own6 gr6
  have U0 : Hid (UR w.heap.size (w.heap.size + 1) w1.heap.size bs w 0 [] 0 [] w2) := by
    refine ⟨rfl, rfl, own5.kept gr6 (.inr (by simp [Value.ownBlock])), own6, fun k hk => ?_, ?_, ?_, by omega, Nat.le_refl _, by omega⟩
    · refine gr6.cell (gr5.cell ?_ (by simp)) (by simp)
      rw [cell_of_row _ _ _ cs 23 (0, 0) (heap_alloc_new w _)]
      exact hc k hk
    · exact (((Below.refl _ _).alloc (Nat.le_refl _) _).grown gr5 (by simp) (by simp)).grown gr6 (by omega) (by simp)
    · have := gr6.size; omega
  obtain ⟨g6, hg6⟩ : ∃ g, g = w1.heap.size := ⟨_, rfl⟩
  rw [← hg6] at U0
  rw [← hg6]
  clear own5 own6 gr5 gr6 lt5 hc hg6
  go_wp2
  go_loopw [5, 6, 7] (fun v5 v6 i wr => ∃ k n5 n6 : Nat, k ≤ 16 ∧ i = .int .i64 k ∧ v5 = .slice (some ⟨w.heap.size + 1, 0, none⟩) n5 36 ∧ v6 = .slice (some ⟨g6, 0, none⟩) n6 32 ∧ UR w.heap.size (w.heap.size + 1) g6 bs w n5 (bufL bs u k) n6 (bareL bs u k) wr) (fun _ _ i _ => 16 - (intOf i).toNat)
  case atStart => exact ⟨0, 0, 0, by omega, rfl, rfl, rfl, U0.out⟩
  case round =>
    clear U0
    obtain ⟨k, n5, n6, hk, rfl, rfl, rfl, U⟩ := hrel
    by_cases hlt : k < 16
    · have hbk := hb k
      have hck := U.arr k hlt
      have N5 := hid (U.len5.symm.trans (buf_len bs u k))
      have N6 := hid (U.len6.symm.trans (bare_len bs u k))
      have m5 : n5 ≤ 2 * k + 4 := by have := dashes_le k; have := N5.out; omega
      have m6 : n6 ≤ 2 * k := by have := N6.out; omega
      have ds := dashes_succ k
      have d16 := dashes_le (k + 1)
      have hk16 : (k : Int) < 16 := by omega
      have hcase : (((k : Int) == 4) = false ∧ ((k : Int) == 6) = false ∧ ((k : Int) == 8) = false ∧ ((k : Int) == 10) = false ∧ dash k = []) ∨
          (dash k = [45] ∧ (((k : Int) == 4) = true ∨ (((k : Int) == 4) = false ∧ ((k : Int) == 6) = true) ∨ (((k : Int) == 4) = false ∧ ((k : Int) == 6) = false ∧ ((k : Int) == 8) = true) ∨ (((k : Int) == 4) = false ∧ ((k : Int) == 6) = false ∧ ((k : Int) == 8) = false ∧ ((k : Int) == 10) = true))) := by
        by_cases h : k = 4 ∨ k = 6 ∨ k = 8 ∨ k = 10
        · right; refine ⟨by rw [dash, if_pos h], ?_⟩; simp; omega
        · left; refine ⟨?_, ?_, ?_, ?_, by rw [dash, if_neg h]⟩ <;> simp <;> omega
      generalize hL5 : bufL bs u k = L5 at *
      generalize hL6 : bareL bs u k = L6 at *
      have c5 : n5 + (dash k).length + 2 ≤ 36 := by have := N5.out; omega
      have c6 : n6 + 2 ≤ 32 := by omega
      have hL5 := hid hL5
      have hL6 := hid hL6
      clear ds d16
      rcases hcase with ⟨e1, e2, e3, e4, hd⟩ | ⟨hd, hcase⟩
      · have HD := hid hd
        rw [hd] at c5
        simp at c5
        clear hd
        go_wp2_with (first | (at_builtin; refine wpList_append_fits _ rfl _ _ 24 rfl (w.heap.size + 1) 5 i0 1 Try.underlying24 hi hz1 (w.heap.size + 1) (n5) 36 _ rfl (U.own5.alloc _) ⟨wr.heap.size, 0, none⟩ 1 1 [.int .u8 (nib (bs[k]?.getD 0 / 16) u)] rfl rfl (cell_one_new _ _ _) ?c2_5_n5 ?c3_5_n5 ?_) | (go_at_call 9; refine (nib_any _ _ _ (by omega) (by omega)).mono ?_; rintro e w' ⟨rfl, hw⟩; have hw := hw.symm; subst hw))
        case c2_5_n5 => first | rfl | (intro u hu; simp at hu; subst hu; rfl)
        case c3_5_n5 => omega
        intro x1 hown hg
        have U := U.put5 (by simpa using hown) hg
        clear hown hg
        have hck := U.arr k hlt
        go_wp2_with (first | (at_builtin; refine wpList_append_fits _ rfl _ _ 24 rfl (w.heap.size + 1) 5 i0 1 Try.underlying24 hi hz1 (w.heap.size + 1) (n5 + 1) 36 _ rfl (U.own5.alloc _) ⟨x1.heap.size, 0, none⟩ 1 1 [.int .u8 (nib (bs[k]?.getD 0 % 16) u)] rfl rfl (cell_one_new _ _ _) ?c2_5_n5p1 ?c3_5_n5p1 ?_) | (go_at_call 9; refine (nib_any _ _ _ (by omega) (by omega)).mono ?_; rintro e w' ⟨rfl, hw⟩; have hw := hw.symm; subst hw))
        case c2_5_n5p1 => first | rfl | (intro u hu; simp at hu; subst hu; rfl)
        case c3_5_n5p1 => omega
        intro x2 hown hg
        have U := U.put5 (by simpa using hown) hg
        clear hown hg
        have hck := U.arr k hlt
        go_wp2_with (first | (at_builtin; refine wpList_append_fits _ rfl _ _ 24 rfl (w.heap.size + 1) 5 i0 1 Try.underlying24 hi hz1 g6 (n6) 32 _ rfl (U.own6.alloc _) ⟨x2.heap.size, 0, none⟩ 1 1 [.int .u8 (nib (bs[k]?.getD 0 / 16) u)] rfl rfl (cell_one_new _ _ _) ?c2_6_n6 ?c3_6_n6 ?_) | (go_at_call 9; refine (nib_any _ _ _ (by omega) (by omega)).mono ?_; rintro e w' ⟨rfl, hw⟩; have hw := hw.symm; subst hw))
        case c2_6_n6 => first | rfl | (intro u hu; simp at hu; subst hu; rfl)
        case c3_6_n6 => omega
        intro x3 hown hg
        have U := U.put6 (by simpa using hown) hg
        clear hown hg
        have hck := U.arr k hlt
        go_wp2_with (first | (at_builtin; refine wpList_append_fits _ rfl _ _ 24 rfl (w.heap.size + 1) 5 i0 1 Try.underlying24 hi hz1 g6 (n6 + 1) 32 _ rfl (U.own6.alloc _) ⟨x3.heap.size, 0, none⟩ 1 1 [.int .u8 (nib (bs[k]?.getD 0 % 16) u)] rfl rfl (cell_one_new _ _ _) ?c2_6_n6p1 ?c3_6_n6p1 ?_) | (go_at_call 9; refine (nib_any _ _ _ (by omega) (by omega)).mono ?_; rintro e w' ⟨rfl, hw⟩; have hw := hw.symm; subst hw))
        case c2_6_n6p1 => first | rfl | (intro u hu; simp at hu; subst hu; rfl)
        case c3_6_n6p1 => omega
        intro x4 hown hg
        have U := U.put6 (by simpa using hown) hg
        clear hown hg
        have hck := U.arr k hlt
        go_wp2
        go_roundw
        case rel => exact ⟨k + 1, _, _, by omega, by go_num, rfl, rfl, by rw [bufL, bareL, hL5.out, hL6.out, HD.out]; simpa [two] using U⟩
        case measure => simp [intOf]; omega
      · have HD := hid hd
        rw [hd] at c5
        simp at c5
        clear hd
        rcases hcase with e1 | ⟨e1, e2⟩ | ⟨e1, e2, e3⟩ | ⟨e1, e2, e3, e4⟩
        all_goals
          go_wp2_with (first | (at_builtin; refine wpList_append_fits _ rfl _ _ 24 rfl (w.heap.size + 1) 5 i0 1 Try.underlying24 hi hz1 (w.heap.size + 1) (n5) 36 _ rfl (U.own5.alloc _) ⟨wr.heap.size, 0, none⟩ 1 1 [.int .u8 (45)] rfl rfl (cell_one_new _ _ _) ?c2_5_n5 ?c3_5_n5 ?_) | (go_at_call 9; refine (nib_any _ _ _ (by omega) (by omega)).mono ?_; rintro e w' ⟨rfl, hw⟩; have hw := hw.symm; subst hw))
          case c2_5_n5 => first | rfl | (intro u hu; simp at hu; subst hu; rfl)
          case c3_5_n5 => omega
          intro x1 hown hg
          have U := U.put5 (by simpa using hown) hg
          clear hown hg
          have hck := U.arr k hlt
          go_wp2_with (first | (at_builtin; refine wpList_append_fits _ rfl _ _ 24 rfl (w.heap.size + 1) 5 i0 1 Try.underlying24 hi hz1 (w.heap.size + 1) (n5 + 1) 36 _ rfl (U.own5.alloc _) ⟨x1.heap.size, 0, none⟩ 1 1 [.int .u8 (nib (bs[k]?.getD 0 / 16) u)] rfl rfl (cell_one_new _ _ _) ?c2_5_n5p1 ?c3_5_n5p1 ?_) | (go_at_call 9; refine (nib_any _ _ _ (by omega) (by omega)).mono ?_; rintro e w' ⟨rfl, hw⟩; have hw := hw.symm; subst hw))
          case c2_5_n5p1 => first | rfl | (intro u hu; simp at hu; subst hu; rfl)
          case c3_5_n5p1 => omega
          intro x2 hown hg
          have U := U.put5 (by simpa using hown) hg
          clear hown hg
          have hck := U.arr k hlt
          go_wp2_with (first | (at_builtin; refine wpList_append_fits _ rfl _ _ 24 rfl (w.heap.size + 1) 5 i0 1 Try.underlying24 hi hz1 (w.heap.size + 1) (n5 + 2) 36 _ rfl (U.own5.alloc _) ⟨x2.heap.size, 0, none⟩ 1 1 [.int .u8 (nib (bs[k]?.getD 0 % 16) u)] rfl rfl (cell_one_new _ _ _) ?c2_5_n5p2 ?c3_5_n5p2 ?_) | (go_at_call 9; refine (nib_any _ _ _ (by omega) (by omega)).mono ?_; rintro e w' ⟨rfl, hw⟩; have hw := hw.symm; subst hw))
          case c2_5_n5p2 => first | rfl | (intro u hu; simp at hu; subst hu; rfl)
          case c3_5_n5p2 => omega
          intro x3 hown hg
          have U := U.put5 (by simpa using hown) hg
          clear hown hg
          have hck := U.arr k hlt
          go_wp2_with (first | (at_builtin; refine wpList_append_fits _ rfl _ _ 24 rfl (w.heap.size + 1) 5 i0 1 Try.underlying24 hi hz1 g6 (n6) 32 _ rfl (U.own6.alloc _) ⟨x3.heap.size, 0, none⟩ 1 1 [.int .u8 (nib (bs[k]?.getD 0 / 16) u)] rfl rfl (cell_one_new _ _ _) ?c2_6_n6 ?c3_6_n6 ?_) | (go_at_call 9; refine (nib_any _ _ _ (by omega) (by omega)).mono ?_; rintro e w' ⟨rfl, hw⟩; have hw := hw.symm; subst hw))
          case c2_6_n6 => first | rfl | (intro u hu; simp at hu; subst hu; rfl)
          case c3_6_n6 => omega
          intro x4 hown hg
          have U := U.put6 (by simpa using hown) hg
          clear hown hg
          have hck := U.arr k hlt
          go_wp2_with (first | (at_builtin; refine wpList_append_fits _ rfl _ _ 24 rfl (w.heap.size + 1) 5 i0 1 Try.underlying24 hi hz1 g6 (n6 + 1) 32 _ rfl (U.own6.alloc _) ⟨x4.heap.size, 0, none⟩ 1 1 [.int .u8 (nib (bs[k]?.getD 0 % 16) u)] rfl rfl (cell_one_new _ _ _) ?c2_6_n6p1 ?c3_6_n6p1 ?_) | (go_at_call 9; refine (nib_any _ _ _ (by omega) (by omega)).mono ?_; rintro e w' ⟨rfl, hw⟩; have hw := hw.symm; subst hw))
          case c2_6_n6p1 => first | rfl | (intro u hu; simp at hu; subst hu; rfl)
          case c3_6_n6p1 => omega
          intro x5 hown hg
          have U := U.put6 (by simpa using hown) hg
          clear hown hg
          have hck := U.arr k hlt
          go_wp2
          go_roundw
          case rel => exact ⟨k + 1, _, _, by omega, by go_num, rfl, rfl, by rw [bufL, bareL, hL5.out, hL6.out, HD.out]; simpa [two] using U⟩
          case measure => simp [intOf]; omega
    · have G1 := buf_good bs u hb k hk
      have G2 := buf_b8 bs u hb k
      have q5 : n5 = 36 := by rw [← U.len5, buf_len, show k = 16 by omega]; rfl
      have q6 : n6 = 32 := by rw [← U.len6, bare_len]; omega
      generalize bufL bs u k = L5 at *
      generalize bareL bs u k = L6 at *
      subst q5
      subst q6
      have cv5 := conv_str U.len5 U.own5
      have cv6 := conv_str U.len6 U.own6
      have hbel := U.bel
      have G := hid (str_good L5 G1 G2)
      have z5 := hid ((str_size L5).trans U.len5)
      have z6 := hid ((str_size L6).trans U.len6)
      clear U hb G1 G2
      generalize str L5 = s5 at *
      generalize str L6 = s6 at *
      go_wp2_with fail
      refine (isuuid_yes s5 _ z5.out G.out).mono ?_
      rintro e w' ⟨rfl, hw⟩
      have hw := hw.symm
      subst hw
      go_wp2_with fail
      refine (isuuid_no s6 _ (by rw [z6.out]; omega) (by rw [z6.out]; omega)).mono ?_
      rintro e w' ⟨rfl, hw⟩
      have hw := hw.symm
      subst hw
      go_wp2
      go_ret
      exact ⟨rfl, hbel⟩

end Go.Proofs.Qxb6604160a
