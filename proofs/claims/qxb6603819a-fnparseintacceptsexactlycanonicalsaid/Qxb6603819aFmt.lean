/-
  'formatInt64' walked: it hands back a new slice that reads as 'fmt64'.
-/
import Derived.Test.Qxb6603819aBase
namespace Go.Proofs.Qxb6603819a
open Go.RowKit

/-- The decimal digits of n, f of them at the most. -/
def decF : Nat → Nat → List Int
  | 0, _ => []
  | f + 1, n => if n < 10 then [48 + (n : Int)] else decF f (n / 10) ++ [48 + ((n % 10 : Nat) : Int)]

def dec (n : Nat) : List Int := decF 20 n
def fmt64 (v : Int) : List Int := if v < 0 then 45 :: dec (-v).toNat else dec v.toNat

/-- The buffer: block B of twenty cells; from cell i on it reads as s. -/
structure Buf (B : Nat) (w : World) (i : Nat) (s : List Int) : Prop where
  ex : ∃ cur : Array Value, w.heap[B]? = some (.cells cur 42 (0, 0)) ∧ cur.size = 20 ∧ cur.toList.drop i = s.map (Value.int .u8)

theorem Buf.cell {B : Nat} {w : World} {i : Nat} {s : List Int} (h : Buf B w i s) (j : Nat) (hj : j < 20) : ∃ v, w.cell? ⟨B, j, none⟩ = some v := by
  obtain ⟨cur, h1, h2, _⟩ := h.ex
  exact ⟨cur[j]'(by omega), by rw [cell_of_row w B j cur 42 (0, 0) h1]; simp⟩
theorem Buf.free {B : Nat} {w : World} {i : Nat} {s : List Int} (h : Buf B w i s) (j : Nat) : w.frozen? ⟨B, j, none⟩ = false := by
  obtain ⟨cur, h1, h2, _⟩ := h.ex
  exact frozen_of_row w B j cur 42 h1
theorem Buf.put {B : Nat} {w : World} {i : Nat} {s : List Int} (h : Buf B w (i + 1) s) (hi : i < 20) (c : Int) : Buf B (w.setCell ⟨B, i, none⟩ (.int .u8 c)) i (c :: s) := by
  obtain ⟨cur, h1, h2, h3⟩ := h.ex
  refine ⟨cur.setIfInBounds i (.int .u8 c), heap_setCell_same w B i cur 42 _ h1, by simpa using h2, ?_⟩
  rw [Array.toList_setIfInBounds, List.drop_eq_getElem_cons (by simp; omega)]
  simp [List.drop_set, h3]
theorem Buf.read {B : Nat} {w : World} {i : Nat} {s : List Int} (h : Buf B w i s) (j : Nat) (hj : i + j < 20) : w.cell? ⟨B, i + j, none⟩ = some (.int .u8 (s[j]?.getD 0)) ∧ j < s.length := by
  obtain ⟨cur, h1, h2, h3⟩ := h.ex
  have hl := congrArg List.length h3
  simp [h2] at hl
  have hj' : j < s.length := by omega
  refine ⟨?_, hj'⟩
  rw [cell_of_row w B (i + j) cur 42 (0, 0) h1]
  have := congrArg (fun l => l[j]?) h3
  simp [hj'] at this
  simp [this, hj']
theorem Buf.len {B : Nat} {w : World} {i : Nat} {s : List Int} (h : Buf B w i s) : s.length = 20 - i := by
  obtain ⟨cur, h1, h2, h3⟩ := h.ex
  have hl := congrArg List.length h3
  simp [h2] at hl
  omega

theorem dec_small {f n : Nat} (h : n < 10) (hf : 0 < f) : decF f n = [48 + (n : Int)] := by
  cases f with
  | zero => omega
  | succ f => rw [decF, if_pos h]
theorem dec_step {f n : Nat} (h : ¬ n < 10) : decF (f + 1) n = decF f (n / 10) ++ [48 + ((n % 10 : Nat) : Int)] := by
  rw [decF, if_neg h]

theorem Buf.other {B : Nat} {w : World} {i : Nat} {s : List Int} (h : Buf B w i s) {a : Addr} (ha : B ≠ a.block) (u : Value) : Buf B (w.setCell a u) i s := by
  obtain ⟨cur, h1, h2⟩ := h.ex
  exact ⟨cur, by rw [Below.heap_setCell _ _ _ _ ha]; exact h1, h2⟩
theorem Buf.grown {B : Nat} {w w' : World} {i : Nat} {s : List Int} (h : Buf B w i s) (hg : w.grownBy w' none) (hB : B < w.heap.size) : Buf B w' i s := by
  obtain ⟨cur, h1, h2⟩ := h.ex
  exact ⟨cur, by rw [hg.block B hB (by simp)]; exact h1, h2⟩
theorem Buf.start (w : World) (cur : Array Value) (h : cur.size = 20) : Buf w.heap.size (w.alloc (.cells cur 42)) 20 [] := by
  refine ⟨cur, ?_, h, ?_⟩
  · show (w.heap.push _)[w.heap.size]? = _
    simp
  · rw [List.drop_eq_nil_of_le (by simp [h])]; rfl

theorem pow_step {u j : Nat} (h : u < 10 ^ (j + 1)) (h1 : ¬ u < 10) : ∃ j', j = j' + 1 ∧ u / 10 < 10 ^ (j' + 1) := by
  cases j with
  | zero => omega
  | succ j' => exact ⟨j', rfl, by rw [Nat.div_lt_iff_lt_mul (by omega)]; rw [Nat.pow_succ] at h; exact h⟩

theorem rel_next {D : List Int} {w wr : World} {j u : Nat} {s : List Int} (hj : j ≤ 18) (hu : u < 10 ^ (j + 1)) (hu2 : u ≤ 9223372036854775808) (HF : Hid (D = decF (j + 2) u ++ s)) (hs : ¬ u < 10)
    (hbuf : Buf w.heap.size wr (j + 2) s) (hsz : wr.heap.size = w.heap.size + 1) (hbel : Below w.heap.size w wr) :
    ∃ j' u' : Nat, ∃ s' : List Int, j' ≤ 18 ∧ Value.int IntKind.i64 ((j : Int) + 2 - 1) = .int .i64 ((j' : Int) + 2) ∧ Value.int IntKind.u64 ((u : Int) / 10) = .int .u64 u' ∧ u' < 10 ^ (j' + 1) ∧ u' ≤ 9223372036854775808 ∧ Hid (D = decF (j' + 2) u' ++ s') ∧
      Buf w.heap.size (wr.setCell ⟨w.heap.size, j + 1, none⟩ (Value.int .u8 (48 + (u : Int) % 10))) (j' + 2) s' ∧ (wr.setCell ⟨w.heap.size, j + 1, none⟩ (Value.int .u8 (48 + (u : Int) % 10))).heap.size = w.heap.size + 1 ∧
      Below w.heap.size w (wr.setCell ⟨w.heap.size, j + 1, none⟩ (Value.int .u8 (48 + (u : Int) % 10))) := by
  obtain ⟨j', rfl, h'⟩ := pow_step hu hs
  refine ⟨j', u / 10, (48 + ((u % 10 : Nat) : Int)) :: s, by omega, congrArg _ (by omega), congrArg _ (by omega), h', by omega, ?_, ?_, by simp [World.setCell, hsz], hbel.setCell (by exact Nat.le_refl _) _⟩
  · show D = _
    rw [HF.out, dec_step hs]; simp
  · have := hbuf.put (by omega) (48 + ((u % 10 : Nat) : Int))
    have e : (48 + (u : Int) % 10) = 48 + ((u % 10 : Nat) : Int) := by omega
    rw [e]; exact this

theorem rel_last {D : List Int} {w wr : World} {j u : Nat} {s : List Int} (hj : j ≤ 18) (HF : Hid (D = decF (j + 2) u ++ s)) (hs : u < 10) (hbuf : Buf w.heap.size wr (j + 2) s) :
    ∃ s', D = s' ∧ Buf w.heap.size (wr.setCell ⟨w.heap.size, j + 1, none⟩ (Value.int .u8 (48 + (u : Int) % 10))) (j + 1) s' := by
  refine ⟨(48 + (u : Int) % 10) :: s, ?_, hbuf.put (by omega) _⟩
  rw [HF.out, dec_small hs (by omega)]
  have : (u : Int) % 10 = u := by omega
  rw [this]; rfl

set_option maxHeartbeats 400000 in
theorem format_pos (v : Int) (w : World) (h0 : 0 ≤ v) (h1 : v ≤ 9223372036854775807) :
    Calls Try.prog 14 #[.int .i64 v] w fun e w' => ∃ u n c, e = .returned (.slice u n c) ∧ Own w.heap.size w' (.slice u n c) (fmt64 v) ∧ Below w.heap.size w w' := by
  have hneg : decide (v < 0) = false := by simp; omega
  obtain ⟨i0, hi, hz0, hz1, hz2⟩ := info_parts Try.info5
  go_enter Try.func14, Try.ntmps14
  go_wp2
  go_loopw [4, 5] (fun i t wr => ∃ j u : Nat, ∃ s : List Int, j ≤ 18 ∧ i = .int .i64 ((j : Int) + 2) ∧ t = .int .u64 u ∧ u < 10 ^ (j + 1) ∧ u ≤ 9223372036854775808 ∧ Hid (fmt64 v = decF (j + 2) u ++ s) ∧ Buf w.heap.size wr (j + 2) s ∧ wr.heap.size = w.heap.size + 1 ∧ Below w.heap.size w wr) (fun i _ _ => (intOf i).toNat)
  case atStart =>
    refine ⟨18, v.toNat, [], by omega, rfl, congrArg _ (by omega), by omega, by omega, ?_, Buf.start w _ rfl, by simp, (Below.refl _ _).alloc (Nat.le_refl _) _⟩
    show fmt64 v = _
    rw [fmt64, if_neg (by omega), dec]; simp
  case round =>
    obtain ⟨j, u, s, hj, rfl, rfl, hu, hu2, HF, hbuf, hsz, hbel⟩ := hrel
    obtain ⟨x, hx⟩ := hbuf.cell (j + 1) (by omega)
    have hfz := hbuf.free (j + 1)
    by_cases hs : u < 10
    · obtain ⟨s', HD, hbuf'⟩ := rel_last hj HF hs hbuf
      have HD' : Hid (fmt64 v = s') := HD
      have hbel' := hbel.setCell (p := ⟨w.heap.size, j + 1, none⟩) (Nat.le_refl _) (Value.int .u8 (48 + (u : Int) % 10))
      clear HD HF hbuf hbel
      go_wp2_with (at_make; refine wpList_make_full _ rfl _ _ 22 rfl w.heap.size 5 i0 (.int .u8 0) 1 Try.underlying22 hi hz0 hz1 _ _ _ _ (19 - j) rfl rfl (by omega) (by omega) ?b2 ?b3 ?b4 ?_)
      case b2 => rw [hz2]; omega
      case b3 => unfold maxLen; omega
      case b4 => simp; omega
      intro w1 hown hgrow
      have hbuf1 := hbuf'.grown hgrow (by simp; omega)
      have hbel1 := hbel'.grown hgrow (by simp; omega) (by simp)
      have hcp := Cp.start s' hown
      have HL := hbuf'.len
      have hlen : Hid (s'.length = 19 - j) := by show s'.length = _; omega
      clear hown hgrow hbuf' hbel' hx hfz HL
      go_wp2
      go_loopw [7] (fun i wr => ∃ k : Nat, k ≤ 19 - j ∧ i = .int .i64 k ∧ Buf w.heap.size wr (j + 1) s' ∧ Cp w.heap.size (w.heap.size + 1) wr (19 - j) k s' ∧ Below w.heap.size w wr) (fun i _ => 19 - j - (intOf i).toNat)
      case atStart => exact ⟨0, by omega, rfl, hbuf1, hcp, hbel1⟩
      case round =>
        clear hbuf1 hcp hbel1
        obtain ⟨k, hk, rfl, hbuf2, hcp2, hbel2⟩ := hrel
        by_cases hlt : k < 19 - j
        · obtain ⟨r1, r2⟩ := hbuf2.read k (by omega)
          obtain ⟨y, hy⟩ := hcp2.cell hlt
          have hr2 : Hid (k < s'.length) := r2
          clear r2
          have hf2 := hcp2.free k
          go_wp2
          go_roundw
          case rel => exact ⟨k + 1, by omega, by go_num, hbuf2.other (by simp) _, hcp2.put hlt hr2.out, hbel2.setCell (by simp) _⟩
          case measure => simp [intOf]; omega
        · have hk2 : k = 19 - j := by omega
          go_wp2
          go_ret
          refine ⟨_, _, _, rfl, ?_, hbel2⟩
          rw [HD'.out]
          exact (hk2 ▸ hcp2).done hlen.out
    · go_wp2
      go_roundw
      case rel => exact rel_next hj hu hu2 HF hs hbuf hsz hbel
      case measure => simp [intOf]; omega

theorem neg_wrap {v : Int} (h0 : v < 0) (h1 : -9223372036854775808 ≤ v) : IntKind.u64.wrap (-IntKind.u64.wrap v) = -v := by
  simp [IntKind.wrap, IntKind.bits, IntKind.signed]
  omega

set_option maxHeartbeats 400000 in
theorem format_neg (v : Int) (w : World) (h0 : v < 0) (h1 : -9223372036854775808 ≤ v) :
    Calls Try.prog 14 #[.int .i64 v] w fun e w' => ∃ u n c, e = .returned (.slice u n c) ∧ Own w.heap.size w' (.slice u n c) (fmt64 v) ∧ Below w.heap.size w w' := by
  have hneg : decide (v < 0) = true := by simp; omega
  obtain ⟨i0, hi, hz0, hz1, hz2⟩ := info_parts Try.info5
  go_enter Try.func14, Try.ntmps14
  go_wp2
  go_loopw [4, 5] (fun i t wr => ∃ j u : Nat, ∃ s : List Int, j ≤ 18 ∧ i = .int .i64 ((j : Int) + 2) ∧ t = .int .u64 u ∧ u < 10 ^ (j + 1) ∧ u ≤ 9223372036854775808 ∧ Hid (dec (-v).toNat = decF (j + 2) u ++ s) ∧ Buf w.heap.size wr (j + 2) s ∧ wr.heap.size = w.heap.size + 1 ∧ Below w.heap.size w wr) (fun i _ _ => (intOf i).toNat)
  case atStart =>
    refine ⟨18, (-v).toNat, [], by omega, rfl, congrArg _ (by rw [neg_wrap h0 h1]; omega), by omega, by omega, ?_, Buf.start w _ rfl, by simp, (Below.refl _ _).alloc (Nat.le_refl _) _⟩
    show dec _ = _
    rw [dec]; simp
  case round =>
    obtain ⟨j, u, s, hj, rfl, rfl, hu, hu2, HF, hbuf, hsz, hbel⟩ := hrel
    obtain ⟨x, hx⟩ := hbuf.cell (j + 1) (by omega)
    have hfz := hbuf.free (j + 1)
    by_cases hs : u < 10
    · obtain ⟨s', HD, hbuf'⟩ := rel_last hj HF hs hbuf
      have HD' : Hid (fmt64 v = 45 :: s') := by show fmt64 v = _; rw [fmt64, if_pos h0, HD]
      have hbel' := (hbel.setCell (p := ⟨w.heap.size, j + 1, none⟩) (Nat.le_refl _) (Value.int .u8 (48 + (u : Int) % 10))).setCell (p := ⟨w.heap.size, j, none⟩) (Nat.le_refl _) (Value.int .u8 45)
      obtain ⟨x2, hx2⟩ := hbuf'.cell j (by omega)
      have hfz2 := hbuf'.free j
      have hbuf' := hbuf'.put (by omega) 45
      clear HD HF hbuf hbel
      obtain ⟨t, ht⟩ : ∃ t, t = 45 :: s' := ⟨_, rfl⟩
      rw [← ht] at hbuf' HD'
      clear ht
      go_wp2_with (at_make; refine wpList_make_full _ rfl _ _ 22 rfl w.heap.size 5 i0 (.int .u8 0) 1 Try.underlying22 hi hz0 hz1 _ _ _ _ (20 - j) rfl rfl (by omega) (by omega) ?b2 ?b3 ?b4 ?_)
      case b2 => rw [hz2]; omega
      case b3 => unfold maxLen; omega
      case b4 => simp; omega
      intro w1 hown hgrow
      have hbuf1 := hbuf'.grown hgrow (by simp; omega)
      have hbel1 := hbel'.grown hgrow (by simp; omega) (by simp)
      have hcp := Cp.start t hown
      have HL := hbuf'.len
      have hlen : Hid (t.length = 20 - j) := by show t.length = _; omega
      clear hown hgrow hbuf' hbel' hx hfz hx2 hfz2 HL
      go_wp2
      go_loopw [7] (fun i wr => ∃ k : Nat, k ≤ 20 - j ∧ i = .int .i64 k ∧ Buf w.heap.size wr j t ∧ Cp w.heap.size (w.heap.size + 1) wr (20 - j) k t ∧ Below w.heap.size w wr) (fun i _ => 20 - j - (intOf i).toNat)
      case atStart => exact ⟨0, by omega, rfl, hbuf1, hcp, hbel1⟩
      case round =>
        clear hbuf1 hcp hbel1
        obtain ⟨k, hk, rfl, hbuf2, hcp2, hbel2⟩ := hrel
        by_cases hlt : k < 20 - j
        · obtain ⟨r1, r2⟩ := hbuf2.read k (by omega)
          obtain ⟨y, hy⟩ := hcp2.cell hlt
          have hr2 : Hid (k < t.length) := r2
          clear r2
          have hf2 := hcp2.free k
          go_wp2
          go_roundw
          case rel => exact ⟨k + 1, by omega, by go_num, hbuf2.other (by simp) _, hcp2.put hlt hr2.out, hbel2.setCell (by simp) _⟩
          case measure => simp [intOf]; omega
        · have hk2 : k = 20 - j := by omega
          go_wp2
          go_ret
          refine ⟨_, _, _, rfl, ?_, hbel2⟩
          rw [HD'.out]
          exact (hk2 ▸ hcp2).done hlen.out
    · go_wp2
      go_roundw
      case rel => exact rel_next hj hu hu2 HF hs hbuf hsz hbel
      case measure => simp [intOf]; omega

theorem format_any (v : Int) (w : World) (h0 : -9223372036854775808 ≤ v) (h1 : v ≤ 9223372036854775807) :
    Calls Try.prog 14 #[.int .i64 v] w fun e w' => ∃ u n c, e = .returned (.slice u n c) ∧ Own w.heap.size w' (.slice u n c) (fmt64 v) ∧ Below w.heap.size w w' := by
  by_cases hv : v < 0
  · exact format_neg v w hv h0
  · exact format_pos v w (by omega) h1

end Go.Proofs.Qxb6603819a
