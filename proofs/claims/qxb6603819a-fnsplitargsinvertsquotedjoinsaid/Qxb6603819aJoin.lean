/-
  'FnSplitArgsInvertsQuotedJoin': the plain law, and what its loops keep.
-/
import Derived.Test.Qxb6603819aSplitWalk
import Derived.Test.Qxb6603819aQuoteLaw
import Derived.Test.Qxb6603819aSs
namespace Go.Proofs.Qxb6603819a
open Go.RowKit

def joinL (zss : List (List Int)) : List Int := zss.flatMap (fun z => 34 :: (qbody z ++ [32]))
def tot (zss : List (List Int)) : Nat := (zss.map List.length).sum

theorem joinL_cons (z : List Int) (r : List (List Int)) : joinL (z :: r) = 34 :: (qbody z ++ (32 :: joinL r)) := by simp [joinL]
theorem SP_join (zss : List (List Int)) (h : ∀ z ∈ zss, B8 z) : SP none (joinL zss) = some zss := by
  induction zss with
  | nil => exact SP_end
  | cons z r ih =>
    have ih := ih (fun y hy => h y (by simp [hy]))
    rw [joinL_cons, SP_open _ (by decide), SP_dq, adq_qbody z (h z (by simp))]
    simp only [List.drop_left, List.nil_append]
    rw [if_pos (show okAfter (32 :: joinL r) = true from (by decide : spc 32 = true)), SP_white _ _ (by decide), ih]
    rfl
theorem SP_line (zss : List (List Int)) (h : ∀ z ∈ zss, B8 z) : SP none ([32, 9] ++ joinL zss) = some zss := by
  show SP none (32 :: 9 :: joinL zss) = _
  rw [SP_skip _ (by decide), SP_skip _ (by decide), SP_join zss h]
theorem joinL_b8 (zss : List (List Int)) (h : ∀ z ∈ zss, B8 z) : B8 (joinL zss) := by
  induction zss with
  | nil => exact B8.nil
  | cons z r ih =>
    rw [joinL_cons]
    have h1 := qbody_b8 z (h z (by simp))
    have h2 := ih (fun y hy => h y (by simp [hy]))
    intro c hc
    simp only [List.mem_cons, List.mem_append] at hc
    rcases hc with rfl | hc | rfl | hc
    · omega
    · exact h1 c hc
    · omega
    · exact h2 c hc
theorem joinL_len (zss : List (List Int)) : (joinL zss).length ≤ 4 * tot zss + 3 * zss.length := by
  induction zss with
  | nil => simp [joinL]
  | cons z r ih =>
    have := qbody_len z
    rw [joinL_cons]
    simp [tot] at ih ⊢
    omega
theorem joinL_snoc (zss : List (List Int)) (k : Nat) (h : k < zss.length) : joinL (zss.take (k + 1)) = joinL (zss.take k) ++ (34 :: (qbody (zss.getD k []) ++ [32])) := by
  rw [List.take_succ_eq_append_getElem h, joinL, List.flatMap_append]
  simp [joinL, List.getElem?_eq_getElem h]
theorem tot_app (a b : List (List Int)) : tot (a ++ b) = tot a + tot b := by simp [tot]
theorem tot_snoc (zss : List (List Int)) (k : Nat) (h : k < zss.length) : tot (zss.take (k + 1)) = tot (zss.take k) + (zss.getD k []).length := by
  have e : tot [zss[k]] = (zss.getD k []).length := by simp [tot, List.getElem?_eq_getElem h]
  rw [List.take_succ_eq_append_getElem h, tot_app, e]
theorem tot_take (zss : List (List Int)) (k : Nat) : tot (zss.take k) ≤ tot zss := by
  induction zss generalizing k with
  | nil => simp [tot]
  | cons z r ih =>
    cases k with
    | zero => simp [tot]
    | succ k => have := ih k; simp [tot] at this ⊢; omega

/-- The bound's own answer. -/
def ZZ (w : World) (zss : List (List Int)) (e : Ending) (w' : World) : Prop := ∃ p, e = .returned (.bool p) ∧ w' = w ∧ (p = true → ∀ i, (zss.getD i []).length ≤ 1048576)

set_option maxHeartbeats 400000 in
theorem zz19 (a : Option Addr) (len cap : Nat) (zss : List (List Int)) (w : World) (h : ArgSS w a len zss) : Calls Try.prog 19 #[.slice a len cap] w (ZZ w zss) := by
  have hm := h.max
  have HL : Hid (zss.length = len) := h.hlen
  by_cases h1 : len ≤ 1048576
  · go_enter Try.func19, Try.ntmps19
    go_wp2
    go_loop [3, 4] (fun z i => ∃ k : Nat, ∃ t : Int, k ≤ len ∧ i = .int .i64 k ∧ z = .int .i64 t ∧ 0 ≤ t ∧ t ≤ 1048576 ∧ Hid (∀ i, i < k → (zss.getD i []).length ≤ 1048576)) (fun _ i => len - (intOf i).toNat)
    case atStart => exact ⟨0, len, Nat.zero_le _, rfl, by simp, by omega, by omega, fun i hi => by omega⟩
    case round =>
      obtain ⟨k, t, hk, rfl, rfl, ht0, ht1, HA⟩ := hrel
      by_cases hlt : k < len
      · obtain ⟨b, off, rfl, _, hc⟩ := h.cells (by omega)
        obtain ⟨u, n, c, hck, harg⟩ := hc k hlt
        have hs := harg.max
        have HN := hid harg.rd.hlen
        clear hc harg
        by_cases h2 : n ≤ 1048576
        · by_cases h3 : t + n ≤ 1048576
          · go_wp2
            go_round
            case rel =>
              refine ⟨k + 1, t + n, by omega, by go_num, rfl, by omega, by omega, fun i hi => ?_⟩
              by_cases hik : i = k
              · rw [hik, HN.out]; exact h2
              · exact HA.out i (by omega)
            case measure => simp [intOf]; omega
          · go_wp2
            go_ret
            exact ⟨false, rfl, rfl, fun h => by simp at h⟩
        · go_wp2
          go_ret
          exact ⟨false, rfl, rfl, fun h => by simp at h⟩
      · have HF := hid (show ∀ i, (zss.getD i []).length ≤ 1048576 from fun i => by
          by_cases hi : i < k
          · exact HA.out i hi
          · rw [List.getD_eq_getElem?_getD, List.getElem?_eq_none (by rw [HL.out]; omega)]; simp)
        go_wp2
        go_ret
        exact ⟨true, rfl, rfl, fun _ => HF.out⟩
  · go_enter Try.func19, Try.ntmps19
    go_wp2
    go_ret
    exact ⟨false, rfl, rfl, fun h => by simp at h⟩

/-- A cell of a row of slices of the call's own. -/
theorem row_cell {B : Nat} {w : World} {u : Option Addr} {n c m : Nat} {vs : List Value} (h : w.ownsRow B 22 1 (.slice u n c) m vs) (k : Nat) (hk : k < m) :
    ∃ g x, u = some ⟨g, 0, none⟩ ∧ vs[k]? = some x ∧ w.cell? ⟨g, k, none⟩ = some x ∧ n = m := by
  have hl := h.1
  rcases h.2 with ⟨h1, h2⟩ | ⟨g, cap, cur, h1, _⟩
  · omega
  · simp only [Value.slice.injEq] at h1
    obtain ⟨rfl, rfl, rfl⟩ := h1
    refine ⟨g, vs[k]'(by omega), rfl, List.getElem?_eq_getElem (by omega), ?_, rfl⟩
    rw [World.ownsRow.cellAt h k (by omega)]
    exact List.getElem?_eq_getElem (by omega)

/-- The line under way. -/
structure JRel (zss : List (List Int)) (w1 : World) (k : Nat) (v : Value) (wr : World) : Prop where
  own : Own w1.heap.size wr v ([32, 9] ++ joinL (zss.take k))
  gr : Gr (w1.alloc (.cells #[.int .u8 32, .int .u8 9] 5)) (.slice (some ⟨w1.heap.size, 0, none⟩) 2 2) wr v

theorem JRel.bel {zss : List (List Int)} {w1 : World} {k : Nat} {v : Value} {wr : World} (h : JRel zss w1 k v wr) : Below w1.heap.size w1 wr :=
  ((Below.refl _ _).alloc (Nat.le_refl _) _).trans (h.gr.below (by simp) (fun q hq => by simp [Value.ownBlock] at hq; omega))

theorem own_two (w : World) : Own w.heap.size (w.alloc (.cells #[.int .u8 32, .int .u8 9] 5)) (.slice (some ⟨w.heap.size, 0, none⟩) 2 2) [32, 9] :=
  ⟨rfl, .inr ⟨w.heap.size, 2, #[.int .u8 32, .int .u8 9], rfl, Nat.le_refl _, heap_alloc_new w _, Nat.le_refl _, by simp [maxLen], rfl, rfl⟩⟩

end Go.Proofs.Qxb6603819a
