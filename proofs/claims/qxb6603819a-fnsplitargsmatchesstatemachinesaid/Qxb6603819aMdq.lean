/-
  'modelDQ' walked: it computes 'adq' too.
-/
import Derived.Test.Qxb6603819aMdqLaw
import Derived.Test.Qxb6603819aAdq
namespace Go.Proofs.Qxb6603819a
open Go.RowKit

/-- The machine's relation: k bytes are read, acc is decoded, the state holds 'pend st h' back. -/
structure MRel (B : Nat) (v0 : Value) (zs : List Int) (w : World) (k : Nat) (st h : Int) (v : Value) (wr : World) (acc : List Int) : Prop where
  state : DqSt st h
  own : Own B wr v acc
  gr : Gr w v0 wr v
  len : acc.length + (pend st h).length ≤ k
  nil : v = .slice none 0 0 ↔ v0 = .slice none 0 0 ∧ acc = []
  val : adq zs = shift acc (k - (pend st h).length) (adq (pend st h ++ zs.drop k))

def stM (v : Value) : Nat := if intOf v = 4 ∨ intOf v = 5 then 1 else 0

theorem stM_le (v : Value) : stM v ≤ 1 := by unfold stM; split <;> omega

theorem MRel.used {B : Nat} {v0 : Value} {zs : List Int} {w : World} {k : Nat} {st h : Int} {v : Value} {wr : World} {acc : List Int} (R : MRel B v0 zs w k st h v wr acc) {c : Int} (hd : zs.drop k = c :: zs.drop (k + 1))
    {q : Int × Int × List Int × Bool × Bool} (F : FeedOk st h c (zs.drop (k + 1)) q) {v' : Value} {w' : World} (ho : Own B w' v' (acc ++ q.2.2.1)) (hg : Gr wr v w' v') (hn : v' = .slice none 0 0 ↔ v = .slice none 0 0 ∧ q.2.2.1 = [])
    (e1 : q.2.2.2.2 = false) (e2 : q.2.2.2.1 = true) : MRel B v0 zs w (k + 1) q.1 q.2.1 v' w' (acc ++ q.2.2.1) := by
  obtain ⟨f1, f2⟩ := F.used e1 e2
  have hl := R.len
  refine ⟨F.state, ho, R.gr.trans hg, by simp; omega, by rw [hn, R.nil]; simp [and_assoc], ?_⟩
  rw [R.val, hd, f1, shift_shift]
  congr 1
  omega
theorem MRel.kept {B : Nat} {v0 : Value} {zs : List Int} {w : World} {k : Nat} {st h : Int} {v : Value} {wr : World} {acc : List Int} (R : MRel B v0 zs w k st h v wr acc) {c : Int} (hd : zs.drop k = c :: zs.drop (k + 1))
    {q : Int × Int × List Int × Bool × Bool} (F : FeedOk st h c (zs.drop (k + 1)) q) {v' : Value} {w' : World} (ho : Own B w' v' (acc ++ q.2.2.1)) (hg : Gr wr v w' v') (hn : v' = .slice none 0 0 ↔ v = .slice none 0 0 ∧ q.2.2.1 = [])
    (e1 : q.2.2.2.2 = false) (e2 : q.2.2.2.1 = false) : MRel B v0 zs w k q.1 q.2.1 v' w' (acc ++ q.2.2.1) := by
  obtain ⟨f1, f2, _⟩ := F.kept e1 e2
  have hl := R.len
  refine ⟨F.state, ho, R.gr.trans hg, by simp; omega, by rw [hn, R.nil]; simp [and_assoc], ?_⟩
  rw [R.val, hd, f1, shift_shift]
  congr 1
  omega
theorem MRel.close {B : Nat} {v0 : Value} {zs : List Int} {w : World} {k : Nat} {st h : Int} {v : Value} {wr : World} {acc : List Int} (R : MRel B v0 zs w k st h v wr acc) {c : Int} (hd : zs.drop k = c :: zs.drop (k + 1))
    {q : Int × Int × List Int × Bool × Bool} (F : FeedOk st h c (zs.drop (k + 1)) q) {v' : Value} {w' : World} (ho : Own B w' v' (acc ++ q.2.2.1)) (hg : Gr wr v w' v') (hn : v' = .slice none 0 0 ↔ v = .slice none 0 0 ∧ q.2.2.1 = [])
    (e1 : q.2.2.2.2 = true) : QPost B v0 [] w (adq zs) (.returned (.tuple #[v', .int .i64 ((k : Int) + 1), .bool true])) w' := by
  obtain ⟨f1, f2, f3, _⟩ := F.closed e1
  rw [R.val, hd, f1, f2]
  simp only [shift, Option.map_some, List.append_nil, QPost]
  rw [f3] at ho hn
  exact ⟨v', by simp, by simpa using ho, R.gr.trans hg, by rw [hn, R.nil]; simp⟩
theorem MRel.fail {B : Nat} {v0 : Value} {zs : List Int} {w : World} {k : Nat} {st h : Int} {v : Value} {wr : World} {acc : List Int} (R : MRel B v0 zs w k st h v wr acc) (hk : zs.length ≤ k) :
    QPost B v0 [] w (adq zs) (.returned (.tuple #[.slice none 0 0, .int .i64 0, .bool false])) wr := by
  rw [R.val, List.drop_eq_nil_of_le hk, List.append_nil, pend_end st h R.state]
  exact ⟨rfl, v, R.gr⟩

theorem own_empty (w : World) : Own w.heap.size (w.alloc (.cells #[] 5)) (.slice (some ⟨w.heap.size, 0, none⟩) 0 0) [] :=
  ⟨rfl, .inr ⟨w.heap.size, 0, #[], rfl, Nat.le_refl _, heap_alloc_new w _, Nat.le_refl _, by simp, rfl, rfl⟩⟩

set_option maxRecDepth 100000 in
set_option maxHeartbeats 1000000 in
theorem mdq_walk (a : Option Addr) (n c : Nat) (zs : List Int) (w : World) (hrd : Rd w a n zs) (hold : ∀ x, a = some x → 0 < n → x.block < w.heap.size) (hm : n ≤ 100000000) :
    Calls Try.prog 24 #[.slice a n c] w (QPost w.heap.size (.slice (some ⟨w.heap.size, 0, none⟩) 0 0) [] (w.alloc (.cells #[] 5)) (adq zs)) := by
  have HL : Hid (zs.length = n) := hrd.hlen
  go_enter Try.func24, Try.ntmps24
  go_wp2
  go_loopw [5, 6, 7, 8] (fun v s h i wr => ∃ k : Nat, ∃ st h1 : Int, ∃ acc : List Int, k ≤ n ∧ i = .int .i64 k ∧ s = .int .i64 st ∧ h = .int .u8 h1 ∧ MRel w.heap.size (.slice (some ⟨w.heap.size, 0, none⟩) 0 0) zs (w.alloc (.cells #[] 5)) k st h1 v wr acc) (fun _ s _ i _ => 2 * (n - (intOf i).toNat) + stM s)
  case atStart => exact ⟨0, 2, 0, [], Nat.zero_le _, rfl, rfl, rfl, .inl rfl, own_empty w, Gr.refl _ _, by simp [pend], by simp, by simp [pend, shift_nil]⟩
  case round =>
    obtain ⟨k, st, h1, acc, hk, rfl, rfl, rfl, R⟩ := hrel
    by_cases hlt : k < n
    · obtain ⟨b, off, rfl, hc⟩ := hrd.cells (by omega)
      have hb := hold _ rfl (by omega)
      simp only at hb
      have hbk := hrd.b8.at k
      have hck : wr.cell? ⟨b, off + k, none⟩ = some (.int .u8 (zs[k]?.getD 0)) := by
        rw [World.cell?_of_block (w := w.alloc (.cells #[] 5)) (R.gr.grown.block b (by simp; omega) (by simp [Value.ownBlock]; omega)), World.cell?_alloc_past _ _ _ (by exact hb), hc k hlt]; simp
      have D0 := hid (dropc zs k (by rw [HL.out]; exact hlt))
      have F := hid (feed_ok st h1 (zs[k]?.getD 0) (zs.drop (k + 1)) R.state hbk.1 hbk.2)
      have hB2 := R.gr.grown.size
      have hlen := R.len
      simp at hB2
      clear hc hb
      go_wp2_with fail
      refine (feed_any w.heap.size _ acc st h1 _ _ R.state R.own (by omega) (by omega) hbk.1 hbk.2).mono ?_
      generalize feed st h1 (zs[k]?.getD 0) = q at *
      rintro e w2 ⟨v', rfl, ho, hg, hn⟩
      obtain ⟨q1, q2, q3, q4, q5⟩ := q
      simp only at ho hg hn
      cases q5 with
      | true =>
        have P := hid (R.close D0.out F.out ho hg hn rfl)
        clear R F ho hg hn
        go_wp2
        go_ret3
        exact P.out
      | false =>
        cases q4 with
        | true =>
          have P := hid (R.used D0.out F.out ho hg hn rfl rfl)
          clear R F ho hg hn
          go_wp2
          go_roundw
          case rel => exact ⟨k + 1, q1, q2, _, by omega, by go_num, rfl, rfl, P.out⟩
          case measure =>
            have m1 := stM_le (.int .i64 q1)
            simp [intOf]; omega
        | false =>
          have P := hid (R.kept D0.out F.out ho hg hn rfl rfl)
          have FK := hid (F.out.kept rfl rfl).2.2
          clear R F ho hg hn
          go_wp2
          go_roundw
          case rel => exact ⟨k, q1, q2, _, by omega, rfl, rfl, rfl, P.out⟩
          case measure =>
            have m1 : stM (.int .i64 st) = 1 := by unfold stM; rw [if_pos (by simpa [intOf] using FK.out.1)]
            have m2 : stM (.int .i64 q1) = 0 := by rw [show q1 = 2 from FK.out.2]; rfl
            simp [intOf, m1, m2]
    · have P := hid (R.fail (by rw [HL.out]; omega))
      clear R
      go_wp2
      go_ret3
      exact P.out

end Go.Proofs.Qxb6603819a
