/-
  'appendDoubleQuoted' walked: it computes 'adq'.
-/
import Derived.Test.Qxb6603819aDq
import Derived.Deep.RegionHeld3
import Derived.Deep.AppendLies
import Derived.Deep.DrawnRows
namespace Go.Proofs.Qxb6603819a
open Go.RowKit
attribute [local go_sem ↓] Go.wp_at_zero Go.wp_at_succ

/-- What a call that decodes a quoted text leaves: 'o' says what it decodes to. -/
def QPost (B : Nat) (v0 : Value) (xs : List Int) (w : World) (o : Option (List Int × Nat)) (e : Ending) (w' : World) : Prop :=
  match o with
  | none => e = .returned (.tuple #[.slice none 0 0, .int .i64 0, .bool false]) ∧ ∃ v', Gr w v0 w' v'
  | some (d, k) => ∃ v', e = .returned (.tuple #[v', .int .i64 k, .bool true]) ∧ Own B w' v' (xs ++ d) ∧ Gr w v0 w' v' ∧ (v' = .slice none 0 0 ↔ v0 = .slice none 0 0 ∧ d = [])

/-- The loop's relation: k bytes are read, acc is decoded. -/
structure QRel (B : Nat) (v0 : Value) (xs zs : List Int) (w : World) (f : List Int → Option (List Int × Nat)) (k : Nat) (v : Value) (wr : World) (acc : List Int) : Prop where
  own : Own B wr v (xs ++ acc)
  gr : Gr w v0 wr v
  len : acc.length ≤ k
  nil : v = .slice none 0 0 ↔ v0 = .slice none 0 0 ∧ acc = []
  val : f zs = shift acc k (f (zs.drop k))

theorem QRel.put {B : Nat} {v0 : Value} {xs zs : List Int} {w : World} {f : List Int → Option (List Int × Nat)} {k : Nat} {v : Value} {wr : World} {acc : List Int} (h : QRel B v0 xs zs w f k v wr acc) {d : Int} {m : Nat} (hm : 0 < m)
    (hv : f (zs.drop k) = shift [d] m (f (zs.drop (k + m)))) {o : Obj} {v' : Value} {w' : World}
    (hown : w'.ownsRow B 5 1 v' (xs.length + acc.length + 1) (xs.map (Value.int .u8) ++ (acc.map (Value.int .u8) ++ [.int .u8 d]))) (hg : (wr.alloc o).grownBy w' v.ownBlock) (hn : ¬ v' = .slice none 0 0)
    (hat : v'.ownBlock = v.ownBlock ∨ v'.ownBlock = some (wr.heap.size + 1)) : QRel B v0 xs zs w f (k + m) v' w' (acc ++ [d]) := by
  refine ⟨?_, (h.gr.alloc o).step hg ?_, by have := h.len; simp; omega, by simp [hn], ?_⟩
  · unfold Own
    simpa [Nat.add_assoc] using hown
  · rcases hat with e | e
    · exact .inl e
    · exact .inr ⟨_, e, by simp⟩
  · rw [h.val, hv, shift_shift]

theorem QRel.done {B : Nat} {v0 : Value} {xs zs : List Int} {w : World} {f : List Int → Option (List Int × Nat)} {k : Nat} {v : Value} {wr : World} {acc : List Int} (h : QRel B v0 xs zs w f k v wr acc)
    (hv : f (zs.drop k) = some ([], 1)) : QPost B v0 xs w (f zs) (.returned (.tuple #[v, .int .i64 ((k : Int) + 1), .bool true])) wr := by
  rw [h.val, hv]
  simp only [shift, Option.map_some, List.append_nil, QPost]
  exact ⟨v, by simp, h.own, h.gr, h.nil⟩
theorem QRel.fail {B : Nat} {v0 : Value} {xs zs : List Int} {w : World} {f : List Int → Option (List Int × Nat)} {k : Nat} {v : Value} {wr : World} {acc : List Int} (h : QRel B v0 xs zs w f k v wr acc)
    (hv : f (zs.drop k) = none) : QPost B v0 xs w (f zs) (.returned (.tuple #[.slice none 0 0, .int .i64 0, .bool false])) wr := by
  rw [h.val, hv]
  exact ⟨rfl, v, h.gr⟩

theorem grown_undrew {W w' : World} {r : Option Nat} (h : W.drew.grownBy w' r) : W.grownBy w' r := ⟨h.os, h.tape, h.output, h.size, h.block⟩
theorem hid {p : Prop} (h : p) : Hid p := h
theorem dropc (zs : List Int) (k : Nat) (h : k < zs.length) : zs.drop k = zs[k]?.getD 0 :: zs.drop (k + 1) := by
  rw [List.drop_eq_getElem_cons h, List.getElem?_eq_getElem h]; rfl

theorem or16 : ∀ x : Fin 16, ∀ y : Fin 16, (x.val * 16 ||| y.val) = x.val * 16 + y.val := by decide
theorem hex_or {x y : Int} (h0 : 0 ≤ x) (h1 : x ≤ 15) (h2 : 0 ≤ y) (h3 : y ≤ 15) : bits .or .u8 (IntKind.u8.wrap (x * 16)) y = x * 16 + y := by
  have e : IntKind.u8.wrap (x * 16) = x * 16 := by simp [IntKind.wrap, IntKind.bits, IntKind.signed]; omega
  rw [e, u8_or _ _ (by omega) (by omega) h2 (by omega)]
  have := or16 ⟨x.toNat, by omega⟩ ⟨y.toNat, by omega⟩
  simp only at this
  rw [show (x * 16).toNat = x.toNat * 16 by omega, this]
  omega
theorem wrap_k (k j : Nat) (h : k + j ≤ 1000000000) : IntKind.i64.wrap ((k : Int) + (j : Int)) = (k : Int) + (j : Int) := by
  simp [IntKind.wrap, IntKind.bits, IntKind.signed]; omega

set_option maxRecDepth 100000 in
set_option maxHeartbeats 1000000 in
theorem adq_walk (B : Nat) (v0 : Value) (xs : List Int) (a : Option Addr) (n c : Nat) (zs : List Int) (w : World) (hown : Own B w v0 xs) (hB : B ≤ w.heap.size) (hrd : Rd w a n zs)
    (hold : ∀ x, a = some x → 0 < n → x.block < w.heap.size ∧ some x.block ≠ v0.ownBlock) (hm : xs.length + n ≤ 100000000) :
    Calls Try.prog 27 #[v0, .slice a n c] w (QPost B v0 xs w (adq zs)) := by
  obtain ⟨i0, hi, hz0, hz1, hz2⟩ := info_parts Try.info5
  have HL : Hid (zs.length = n) := hrd.hlen
  go_enter Try.func27, Try.ntmps27
  go_wp2
  go_loopw [0, 7] (fun v i wr => ∃ k : Nat, ∃ acc : List Int, k ≤ n ∧ i = .int .i64 k ∧ QRel B v0 xs zs w adq k v wr acc) (fun _ i _ => n - (intOf i).toNat)
  case atStart => exact ⟨0, [], Nat.zero_le _, rfl, by simpa using hown, Gr.refl _ _, by simp, by simp, by rw [shift_nil]; rfl⟩
  case round =>
    obtain ⟨k, acc, hk, rfl, R⟩ := hrel
    by_cases hlt : k < n
    · obtain ⟨b, off, rfl, hc⟩ := (R.gr.rd hrd hold).cells (by omega)
      have h8 := hrd.b8
      have hck := hc k hlt
      have hbk := h8.at k
      simp at hck
      by_cases hq : zs[k]?.getD 0 = 34
      · have hE : (zs[k]?.getD 0 == 34) = true := by simp [hq]
        have HV : Hid (adq (zs.drop k) = some ([], 1)) := by rw [Hid, dropc zs k (by rw [HL.out]; exact hlt), hq, adq_close]
        clear hq hc
        go_wp2
        go_ret3
        exact R.done HV.out
      · have hE : (zs[k]?.getD 0 == 34) = false := by simp [hq]
        have hB2 := R.gr.grown.size
        have hlen := R.len
        by_cases hb : zs[k]?.getD 0 = 92
        · have hE2 : (zs[k]?.getD 0 == 92) = true := by simp [hb]
          have HB : Hid (zs[k]?.getD 0 = 92) := hb
          have D0 : Hid (zs.drop k = 92 :: zs.drop (k + 1)) := by rw [Hid, dropc zs k (by rw [HL.out]; exact hlt), hb]
          clear hq hb
          by_cases hA : k + 3 < n ∧ zs[k + 1]?.getD 0 = 120 ∧ hexb (zs[k + 2]?.getD 0) = true ∧ hexb (zs[k + 3]?.getD 0) = true
          · obtain ⟨a1, a2, a3, a4⟩ := hA
            have hc1 := hc (k + 1) (by omega)
            have hc2 := hc (k + 2) (by omega)
            have hc3 := hc (k + 3) (by omega)
            have b2 := h8.at (k + 2)
            have b3 := h8.at (k + 3)
            simp at hc1 hc2 hc3
            have hx : (zs[k + 1]?.getD 0 == 120) = true := by simp [a2]
            have r2 := hexv_rng a3
            have r3 := hexv_rng a4
            have HV : Hid (adq (zs.drop k) = shift [bits .or .u8 (IntKind.u8.wrap (hexv (zs[k + 2]?.getD 0) * 16)) (hexv (zs[k + 3]?.getD 0))] 4 (adq (zs.drop (k + 4)))) := by
              rw [Hid, hex_or r2.1 r2.2 r3.1 r3.2, D0.out, dropc zs (k + 1) (by rw [HL.out]; omega), a2, dropc zs (k + 2) (by rw [HL.out]; omega), dropc zs (k + 3) (by rw [HL.out]; omega), adq_hex _ a3 a4]
            have f2 : IntKind.i64.wrap ((k : Int) + 2) = (k : Int) + 2 := wrap_k k 2 (by omega)
            have f3 : IntKind.i64.wrap ((k : Int) + 3) = (k : Int) + 3 := wrap_k k 3 (by omega)
            have g2 : (k : Int) + 2 < n := by omega
            have g3 : (k : Int) + 3 < n := by omega
            have p2 : (0 : Int) ≤ (k : Int) + 2 := by omega
            have p3 : (0 : Int) ≤ (k : Int) + 3 := by omega
            have t2 : ((k : Int) + 2).toNat = k + 2 := by omega
            have t3 : ((k : Int) + 3).toNat = k + 3 := by omega
            have hbn : some b ≠ u0.ownBlock := by
              obtain ⟨o1, o2⟩ := hold _ rfl (by omega)
              rcases R.gr.lies with e | ⟨g, e, hg⟩
              · rw [e]; exact o2
              · rw [e]; intro e2; simp at e2; simp at o1; omega
            have hbl : b < wr.heap.size := by have := (hold _ rfl (by omega)).1; simp at this; omega
            have hy : (xs.length + acc.length) + 1 ≤ 200000000 := by omega
            clear hc a2 r2 r3
            go_wp2_with (go_at_call 33; refine (isHex_any _ _ (by omega) (by omega)).mono ?_; rintro e w' ⟨rfl, hw⟩; have hw := hw.symm; subst hw)
            go_region_held3 (fun w' => w'.cell? ⟨b, off + (k + 2), none⟩ = some (.int .u8 (zs[k + 2]?.getD 0)) ∧ w'.cell? ⟨b, off + (k + 3), none⟩ = some (.int .u8 (zs[k + 3]?.getD 0))) (first | go_keep | (go_split_ands; refine ⟨?_, ?_⟩ <;> (rw [hgrow.cell_far _ (by simp; omega) hbn]; assumption))) (first | (go_at_call 34; refine (hexValue_any _ _ ?_).mono ?_; (assumption); rintro e w' ⟨rfl, hw⟩; have hw := hw.symm; subst hw) | (refine step_append_lies _ (by rfl) _ _ _ (by rfl) B 5 i0 (.int .u8 0) 1 1 Try.underlying22 hi hz0 hz1 hz2 rfl (by omega) u0 _ _ (by rfl) ((R.own.alloc _).drew) ⟨wr.heap.size, 0, none⟩ 1 1 [.int .u8 (bits .or .u8 (IntKind.u8.wrap (hexv (zs[k + 2]?.getD 0) * 16)) (hexv (zs[k + 3]?.getD 0)))] (by rfl) (by rfl) (World.news_of_block (cs := #[.int .u8 (bits .or .u8 (IntKind.u8.wrap (hexv (zs[k + 2]?.getD 0) * 16)) (hexv (zs[k + 3]?.getD 0)))]) (t := 5) (fr := (0, 0)) (heap_alloc_new wr _)) (by simp [Value.oneCell']) (by omega) (by simp [maxLen]; omega) (by simp; omega) (by simp; omega) (wr.heap.size + 1) (by simp) ?_; intro g cap w1 hown' hgrow hat hlt'))
            all_goals
              have R' := hid (R.put (by omega) HV.out (by simpa using hown') (grown_undrew hgrow) (by simp) (by rcases hat with e | e; exact .inl e.symm; exact .inr (by rw [e]; rfl)))
              clear hown' hgrow hat R
              go_wp2
              go_roundw
              case rel => exact ⟨k + 4, _, by omega, by go_num, R'.out⟩
              case measure => simp [intOf]; omega
          · by_cases h1n : k + 1 < n
            · have hc1 := hc (k + 1) h1n
              have bb1 := h8.at (k + 1)
              simp at hc1
              have HV0 : adq (zs.drop k) = shift [unesc (zs[k + 1]?.getD 0)] 2 (adq (zs.drop (k + 2))) := by
                rw [D0.out, dropc zs (k + 1) (by rw [HL.out]; omega)]
                refine adq_any _ fun hd h1 h2 r2 hr hh => hA ?_
                have l1 : k + 3 < n := by
                  have := congrArg List.length hr
                  have l2 := HL.out
                  simp at this; omega
                rw [dropc zs (k + 1 + 1) (by rw [HL.out]; omega), dropc zs (k + 1 + 1 + 1) (by rw [HL.out]; omega)] at hr
                simp only [List.cons.injEq] at hr
                exact ⟨l1, hd, by rw [show k + 2 = k + 1 + 1 from rfl, hr.1]; exact hh.1, by rw [show k + 3 = k + 1 + 1 + 1 from rfl, hr.2.1]; exact hh.2⟩
              by_cases h3n : k + 3 < n
              · have hc2 := hc (k + 2) (by omega)
                have hc3 := hc (k + 3) (by omega)
                have b2 := h8.at (k + 2)
                have b3 := h8.at (k + 3)
                simp at hc2 hc3
                by_cases hd : zs[k + 1]?.getD 0 = 120
                · have hx : (zs[k + 1]?.getD 0 == 120) = true := by simp [hd]
                  have x1 : (zs[k + 1]?.getD 0 == 110) = false := by rw [hd]; rfl
                  have x2 : (zs[k + 1]?.getD 0 == 114) = false := by rw [hd]; rfl
                  have x3 : (zs[k + 1]?.getD 0 == 116) = false := by rw [hd]; rfl
                  have x4 : (zs[k + 1]?.getD 0 == 97) = false := by rw [hd]; rfl
                  have x5 : (zs[k + 1]?.getD 0 == 98) = false := by rw [hd]; rfl
                  have HV := hid HV0
                  rw [hd, unesc_x, ← hd] at HV
                  have hcase : hexb (zs[k + 2]?.getD 0) = false ∨ (hexb (zs[k + 2]?.getD 0) = true ∧ hexb (zs[k + 3]?.getD 0) = false) := by
                    cases e2 : hexb (zs[k + 2]?.getD 0)
                    · exact .inl rfl
                    · cases e3 : hexb (zs[k + 3]?.getD 0)
                      · exact .inr ⟨rfl, rfl⟩
                      · exact absurd ⟨h3n, hd, e2, e3⟩ hA
                  clear hA hd HV0 hc
                  rcases hcase with a3 | ⟨a3, a4⟩
                  · skip
                    go_wp2_with (first | (at_builtin; refine wpList_append_own_at _ rfl _ _ 22 rfl B 5 i0 (.int .u8 0) 1 1 Try.underlying22 hi hz0 hz1 hz2 rfl (by decide) _ _ _ rfl (R.own.alloc _) ⟨wr.heap.size, 0, none⟩ 1 1 [.int .u8 (zs[k + 1]?.getD 0)] rfl rfl (cell_one_new _ _ _) ?c2 ?c3 ?c4 ?c5 ?_) | (go_at_call 33; refine (isHex_any _ _ (by omega) (by omega)).mono ?_; rintro e w' ⟨rfl, hw⟩; have hw := hw.symm; subst hw))
                    case c2 => first | rfl | (intro u hu; simp at hu; subst hu; rfl)
                    case c3 => first | (simp [maxLen]; omega) | (unfold maxLen; omega)
                    case c4 => first | (simp; omega) | omega
                    case c5 => first | (simp; omega) | omega
                    intro v' w1 hown' hgrow hnil hat
                    have R' := hid (R.put (by omega) HV.out hown' hgrow hnil (by simpa using hat))
                    clear hown' hgrow hnil hat R
                    go_wp2
                    go_roundw
                    case rel => exact ⟨k + 2, _, by omega, by go_num, R'.out⟩
                    case measure => simp [intOf]; omega
                  · skip
                    go_wp2_with (first | (at_builtin; refine wpList_append_own_at _ rfl _ _ 22 rfl B 5 i0 (.int .u8 0) 1 1 Try.underlying22 hi hz0 hz1 hz2 rfl (by decide) _ _ _ rfl (R.own.alloc _) ⟨wr.heap.size, 0, none⟩ 1 1 [.int .u8 (zs[k + 1]?.getD 0)] rfl rfl (cell_one_new _ _ _) ?c2 ?c3 ?c4 ?c5 ?_) | (go_at_call 33; refine (isHex_any _ _ (by omega) (by omega)).mono ?_; rintro e w' ⟨rfl, hw⟩; have hw := hw.symm; subst hw))
                    case c2 => first | rfl | (intro u hu; simp at hu; subst hu; rfl)
                    case c3 => first | (simp [maxLen]; omega) | (unfold maxLen; omega)
                    case c4 => first | (simp; omega) | omega
                    case c5 => first | (simp; omega) | omega
                    intro v' w1 hown' hgrow hnil hat
                    have R' := hid (R.put (by omega) HV.out hown' hgrow hnil (by simpa using hat))
                    clear hown' hgrow hnil hat R
                    go_wp2
                    go_roundw
                    case rel => exact ⟨k + 2, _, by omega, by go_num, R'.out⟩
                    case measure => simp [intOf]; omega
                · have hx : (zs[k + 1]?.getD 0 == 120) = false := by simp [hd]
                  clear hA hd hc
                  rcases unesc_cases (zs[k + 1]?.getD 0) with ⟨e1, e⟩ | ⟨e1, e2, e⟩ | ⟨e1, e2, e3, e⟩ | ⟨e1, e2, e3, e4, e⟩ | ⟨e1, e2, e3, e4, e5, e⟩ | ⟨e1, e2, e3, e4, e5, e⟩
                  · rw [e] at HV0
                    have HV := hid HV0
                    clear e HV0
                    go_wp2_with (first | (at_builtin; refine wpList_append_own_at _ rfl _ _ 22 rfl B 5 i0 (.int .u8 0) 1 1 Try.underlying22 hi hz0 hz1 hz2 rfl (by decide) _ _ _ rfl (R.own.alloc _) ⟨wr.heap.size, 0, none⟩ 1 1 [.int .u8 (10)] rfl rfl (cell_one_new _ _ _) ?c2 ?c3 ?c4 ?c5 ?_) | (go_at_call 33; refine (isHex_any _ _ (by omega) (by omega)).mono ?_; rintro e w' ⟨rfl, hw⟩; have hw := hw.symm; subst hw))
                    case c2 => first | rfl | (intro u hu; simp at hu; subst hu; rfl)
                    case c3 => first | (simp [maxLen]; omega) | (unfold maxLen; omega)
                    case c4 => first | (simp; omega) | omega
                    case c5 => first | (simp; omega) | omega
                    intro v' w1 hown' hgrow hnil hat
                    have R' := hid (R.put (by omega) HV.out hown' hgrow hnil (by simpa using hat))
                    clear hown' hgrow hnil hat R
                    go_wp2
                    go_roundw
                    case rel => exact ⟨k + 2, _, by omega, by go_num, R'.out⟩
                    case measure => simp [intOf]; omega
                  · rw [e] at HV0
                    have HV := hid HV0
                    clear e HV0
                    go_wp2_with (first | (at_builtin; refine wpList_append_own_at _ rfl _ _ 22 rfl B 5 i0 (.int .u8 0) 1 1 Try.underlying22 hi hz0 hz1 hz2 rfl (by decide) _ _ _ rfl (R.own.alloc _) ⟨wr.heap.size, 0, none⟩ 1 1 [.int .u8 (13)] rfl rfl (cell_one_new _ _ _) ?c2 ?c3 ?c4 ?c5 ?_) | (go_at_call 33; refine (isHex_any _ _ (by omega) (by omega)).mono ?_; rintro e w' ⟨rfl, hw⟩; have hw := hw.symm; subst hw))
                    case c2 => first | rfl | (intro u hu; simp at hu; subst hu; rfl)
                    case c3 => first | (simp [maxLen]; omega) | (unfold maxLen; omega)
                    case c4 => first | (simp; omega) | omega
                    case c5 => first | (simp; omega) | omega
                    intro v' w1 hown' hgrow hnil hat
                    have R' := hid (R.put (by omega) HV.out hown' hgrow hnil (by simpa using hat))
                    clear hown' hgrow hnil hat R
                    go_wp2
                    go_roundw
                    case rel => exact ⟨k + 2, _, by omega, by go_num, R'.out⟩
                    case measure => simp [intOf]; omega
                  · rw [e] at HV0
                    have HV := hid HV0
                    clear e HV0
                    go_wp2_with (first | (at_builtin; refine wpList_append_own_at _ rfl _ _ 22 rfl B 5 i0 (.int .u8 0) 1 1 Try.underlying22 hi hz0 hz1 hz2 rfl (by decide) _ _ _ rfl (R.own.alloc _) ⟨wr.heap.size, 0, none⟩ 1 1 [.int .u8 (9)] rfl rfl (cell_one_new _ _ _) ?c2 ?c3 ?c4 ?c5 ?_) | (go_at_call 33; refine (isHex_any _ _ (by omega) (by omega)).mono ?_; rintro e w' ⟨rfl, hw⟩; have hw := hw.symm; subst hw))
                    case c2 => first | rfl | (intro u hu; simp at hu; subst hu; rfl)
                    case c3 => first | (simp [maxLen]; omega) | (unfold maxLen; omega)
                    case c4 => first | (simp; omega) | omega
                    case c5 => first | (simp; omega) | omega
                    intro v' w1 hown' hgrow hnil hat
                    have R' := hid (R.put (by omega) HV.out hown' hgrow hnil (by simpa using hat))
                    clear hown' hgrow hnil hat R
                    go_wp2
                    go_roundw
                    case rel => exact ⟨k + 2, _, by omega, by go_num, R'.out⟩
                    case measure => simp [intOf]; omega
                  · rw [e] at HV0
                    have HV := hid HV0
                    clear e HV0
                    go_wp2_with (first | (at_builtin; refine wpList_append_own_at _ rfl _ _ 22 rfl B 5 i0 (.int .u8 0) 1 1 Try.underlying22 hi hz0 hz1 hz2 rfl (by decide) _ _ _ rfl (R.own.alloc _) ⟨wr.heap.size, 0, none⟩ 1 1 [.int .u8 (7)] rfl rfl (cell_one_new _ _ _) ?c2 ?c3 ?c4 ?c5 ?_) | (go_at_call 33; refine (isHex_any _ _ (by omega) (by omega)).mono ?_; rintro e w' ⟨rfl, hw⟩; have hw := hw.symm; subst hw))
                    case c2 => first | rfl | (intro u hu; simp at hu; subst hu; rfl)
                    case c3 => first | (simp [maxLen]; omega) | (unfold maxLen; omega)
                    case c4 => first | (simp; omega) | omega
                    case c5 => first | (simp; omega) | omega
                    intro v' w1 hown' hgrow hnil hat
                    have R' := hid (R.put (by omega) HV.out hown' hgrow hnil (by simpa using hat))
                    clear hown' hgrow hnil hat R
                    go_wp2
                    go_roundw
                    case rel => exact ⟨k + 2, _, by omega, by go_num, R'.out⟩
                    case measure => simp [intOf]; omega
                  · rw [e] at HV0
                    have HV := hid HV0
                    clear e HV0
                    go_wp2_with (first | (at_builtin; refine wpList_append_own_at _ rfl _ _ 22 rfl B 5 i0 (.int .u8 0) 1 1 Try.underlying22 hi hz0 hz1 hz2 rfl (by decide) _ _ _ rfl (R.own.alloc _) ⟨wr.heap.size, 0, none⟩ 1 1 [.int .u8 (8)] rfl rfl (cell_one_new _ _ _) ?c2 ?c3 ?c4 ?c5 ?_) | (go_at_call 33; refine (isHex_any _ _ (by omega) (by omega)).mono ?_; rintro e w' ⟨rfl, hw⟩; have hw := hw.symm; subst hw))
                    case c2 => first | rfl | (intro u hu; simp at hu; subst hu; rfl)
                    case c3 => first | (simp [maxLen]; omega) | (unfold maxLen; omega)
                    case c4 => first | (simp; omega) | omega
                    case c5 => first | (simp; omega) | omega
                    intro v' w1 hown' hgrow hnil hat
                    have R' := hid (R.put (by omega) HV.out hown' hgrow hnil (by simpa using hat))
                    clear hown' hgrow hnil hat R
                    go_wp2
                    go_roundw
                    case rel => exact ⟨k + 2, _, by omega, by go_num, R'.out⟩
                    case measure => simp [intOf]; omega
                  · rw [e] at HV0
                    have HV := hid HV0
                    clear e HV0
                    go_wp2_with (first | (at_builtin; refine wpList_append_own_at _ rfl _ _ 22 rfl B 5 i0 (.int .u8 0) 1 1 Try.underlying22 hi hz0 hz1 hz2 rfl (by decide) _ _ _ rfl (R.own.alloc _) ⟨wr.heap.size, 0, none⟩ 1 1 [.int .u8 (zs[k + 1]?.getD 0)] rfl rfl (cell_one_new _ _ _) ?c2 ?c3 ?c4 ?c5 ?_) | (go_at_call 33; refine (isHex_any _ _ (by omega) (by omega)).mono ?_; rintro e w' ⟨rfl, hw⟩; have hw := hw.symm; subst hw))
                    case c2 => first | rfl | (intro u hu; simp at hu; subst hu; rfl)
                    case c3 => first | (simp [maxLen]; omega) | (unfold maxLen; omega)
                    case c4 => first | (simp; omega) | omega
                    case c5 => first | (simp; omega) | omega
                    intro v' w1 hown' hgrow hnil hat
                    have R' := hid (R.put (by omega) HV.out hown' hgrow hnil (by simpa using hat))
                    clear hown' hgrow hnil hat R
                    go_wp2
                    go_roundw
                    case rel => exact ⟨k + 2, _, by omega, by go_num, R'.out⟩
                    case measure => simp [intOf]; omega
              · clear hA hc
                rcases unesc_cases (zs[k + 1]?.getD 0) with ⟨e1, e⟩ | ⟨e1, e2, e⟩ | ⟨e1, e2, e3, e⟩ | ⟨e1, e2, e3, e4, e⟩ | ⟨e1, e2, e3, e4, e5, e⟩ | ⟨e1, e2, e3, e4, e5, e⟩
                · rw [e] at HV0
                  have HV := hid HV0
                  clear e HV0
                  go_wp2_with (first | (at_builtin; refine wpList_append_own_at _ rfl _ _ 22 rfl B 5 i0 (.int .u8 0) 1 1 Try.underlying22 hi hz0 hz1 hz2 rfl (by decide) _ _ _ rfl (R.own.alloc _) ⟨wr.heap.size, 0, none⟩ 1 1 [.int .u8 (10)] rfl rfl (cell_one_new _ _ _) ?c2 ?c3 ?c4 ?c5 ?_) | (go_at_call 33; refine (isHex_any _ _ (by omega) (by omega)).mono ?_; rintro e w' ⟨rfl, hw⟩; have hw := hw.symm; subst hw))
                  case c2 => first | rfl | (intro u hu; simp at hu; subst hu; rfl)
                  case c3 => first | (simp [maxLen]; omega) | (unfold maxLen; omega)
                  case c4 => first | (simp; omega) | omega
                  case c5 => first | (simp; omega) | omega
                  intro v' w1 hown' hgrow hnil hat
                  have R' := hid (R.put (by omega) HV.out hown' hgrow hnil (by simpa using hat))
                  clear hown' hgrow hnil hat R
                  go_wp2
                  go_roundw
                  case rel => exact ⟨k + 2, _, by omega, by go_num, R'.out⟩
                  case measure => simp [intOf]; omega
                · rw [e] at HV0
                  have HV := hid HV0
                  clear e HV0
                  go_wp2_with (first | (at_builtin; refine wpList_append_own_at _ rfl _ _ 22 rfl B 5 i0 (.int .u8 0) 1 1 Try.underlying22 hi hz0 hz1 hz2 rfl (by decide) _ _ _ rfl (R.own.alloc _) ⟨wr.heap.size, 0, none⟩ 1 1 [.int .u8 (13)] rfl rfl (cell_one_new _ _ _) ?c2 ?c3 ?c4 ?c5 ?_) | (go_at_call 33; refine (isHex_any _ _ (by omega) (by omega)).mono ?_; rintro e w' ⟨rfl, hw⟩; have hw := hw.symm; subst hw))
                  case c2 => first | rfl | (intro u hu; simp at hu; subst hu; rfl)
                  case c3 => first | (simp [maxLen]; omega) | (unfold maxLen; omega)
                  case c4 => first | (simp; omega) | omega
                  case c5 => first | (simp; omega) | omega
                  intro v' w1 hown' hgrow hnil hat
                  have R' := hid (R.put (by omega) HV.out hown' hgrow hnil (by simpa using hat))
                  clear hown' hgrow hnil hat R
                  go_wp2
                  go_roundw
                  case rel => exact ⟨k + 2, _, by omega, by go_num, R'.out⟩
                  case measure => simp [intOf]; omega
                · rw [e] at HV0
                  have HV := hid HV0
                  clear e HV0
                  go_wp2_with (first | (at_builtin; refine wpList_append_own_at _ rfl _ _ 22 rfl B 5 i0 (.int .u8 0) 1 1 Try.underlying22 hi hz0 hz1 hz2 rfl (by decide) _ _ _ rfl (R.own.alloc _) ⟨wr.heap.size, 0, none⟩ 1 1 [.int .u8 (9)] rfl rfl (cell_one_new _ _ _) ?c2 ?c3 ?c4 ?c5 ?_) | (go_at_call 33; refine (isHex_any _ _ (by omega) (by omega)).mono ?_; rintro e w' ⟨rfl, hw⟩; have hw := hw.symm; subst hw))
                  case c2 => first | rfl | (intro u hu; simp at hu; subst hu; rfl)
                  case c3 => first | (simp [maxLen]; omega) | (unfold maxLen; omega)
                  case c4 => first | (simp; omega) | omega
                  case c5 => first | (simp; omega) | omega
                  intro v' w1 hown' hgrow hnil hat
                  have R' := hid (R.put (by omega) HV.out hown' hgrow hnil (by simpa using hat))
                  clear hown' hgrow hnil hat R
                  go_wp2
                  go_roundw
                  case rel => exact ⟨k + 2, _, by omega, by go_num, R'.out⟩
                  case measure => simp [intOf]; omega
                · rw [e] at HV0
                  have HV := hid HV0
                  clear e HV0
                  go_wp2_with (first | (at_builtin; refine wpList_append_own_at _ rfl _ _ 22 rfl B 5 i0 (.int .u8 0) 1 1 Try.underlying22 hi hz0 hz1 hz2 rfl (by decide) _ _ _ rfl (R.own.alloc _) ⟨wr.heap.size, 0, none⟩ 1 1 [.int .u8 (7)] rfl rfl (cell_one_new _ _ _) ?c2 ?c3 ?c4 ?c5 ?_) | (go_at_call 33; refine (isHex_any _ _ (by omega) (by omega)).mono ?_; rintro e w' ⟨rfl, hw⟩; have hw := hw.symm; subst hw))
                  case c2 => first | rfl | (intro u hu; simp at hu; subst hu; rfl)
                  case c3 => first | (simp [maxLen]; omega) | (unfold maxLen; omega)
                  case c4 => first | (simp; omega) | omega
                  case c5 => first | (simp; omega) | omega
                  intro v' w1 hown' hgrow hnil hat
                  have R' := hid (R.put (by omega) HV.out hown' hgrow hnil (by simpa using hat))
                  clear hown' hgrow hnil hat R
                  go_wp2
                  go_roundw
                  case rel => exact ⟨k + 2, _, by omega, by go_num, R'.out⟩
                  case measure => simp [intOf]; omega
                · rw [e] at HV0
                  have HV := hid HV0
                  clear e HV0
                  go_wp2_with (first | (at_builtin; refine wpList_append_own_at _ rfl _ _ 22 rfl B 5 i0 (.int .u8 0) 1 1 Try.underlying22 hi hz0 hz1 hz2 rfl (by decide) _ _ _ rfl (R.own.alloc _) ⟨wr.heap.size, 0, none⟩ 1 1 [.int .u8 (8)] rfl rfl (cell_one_new _ _ _) ?c2 ?c3 ?c4 ?c5 ?_) | (go_at_call 33; refine (isHex_any _ _ (by omega) (by omega)).mono ?_; rintro e w' ⟨rfl, hw⟩; have hw := hw.symm; subst hw))
                  case c2 => first | rfl | (intro u hu; simp at hu; subst hu; rfl)
                  case c3 => first | (simp [maxLen]; omega) | (unfold maxLen; omega)
                  case c4 => first | (simp; omega) | omega
                  case c5 => first | (simp; omega) | omega
                  intro v' w1 hown' hgrow hnil hat
                  have R' := hid (R.put (by omega) HV.out hown' hgrow hnil (by simpa using hat))
                  clear hown' hgrow hnil hat R
                  go_wp2
                  go_roundw
                  case rel => exact ⟨k + 2, _, by omega, by go_num, R'.out⟩
                  case measure => simp [intOf]; omega
                · rw [e] at HV0
                  have HV := hid HV0
                  clear e HV0
                  go_wp2_with (first | (at_builtin; refine wpList_append_own_at _ rfl _ _ 22 rfl B 5 i0 (.int .u8 0) 1 1 Try.underlying22 hi hz0 hz1 hz2 rfl (by decide) _ _ _ rfl (R.own.alloc _) ⟨wr.heap.size, 0, none⟩ 1 1 [.int .u8 (zs[k + 1]?.getD 0)] rfl rfl (cell_one_new _ _ _) ?c2 ?c3 ?c4 ?c5 ?_) | (go_at_call 33; refine (isHex_any _ _ (by omega) (by omega)).mono ?_; rintro e w' ⟨rfl, hw⟩; have hw := hw.symm; subst hw))
                  case c2 => first | rfl | (intro u hu; simp at hu; subst hu; rfl)
                  case c3 => first | (simp [maxLen]; omega) | (unfold maxLen; omega)
                  case c4 => first | (simp; omega) | omega
                  case c5 => first | (simp; omega) | omega
                  intro v' w1 hown' hgrow hnil hat
                  have R' := hid (R.put (by omega) HV.out hown' hgrow hnil (by simpa using hat))
                  clear hown' hgrow hnil hat R
                  go_wp2
                  go_roundw
                  case rel => exact ⟨k + 2, _, by omega, by go_num, R'.out⟩
                  case measure => simp [intOf]; omega
            · have HV : Hid (adq (zs.drop k) = shift [zs[k]?.getD 0] 1 (adq (zs.drop (k + 1)))) := by
                rw [Hid, D0.out, List.drop_eq_nil_of_le (by rw [HL.out]; omega), adq_last, adq_nil]; rfl
              clear hA hc
              go_wp2_with (first | (at_builtin; refine wpList_append_own_at _ rfl _ _ 22 rfl B 5 i0 (.int .u8 0) 1 1 Try.underlying22 hi hz0 hz1 hz2 rfl (by decide) _ _ _ rfl (R.own.alloc _) ⟨wr.heap.size, 0, none⟩ 1 1 [.int .u8 (zs[k]?.getD 0)] rfl rfl (cell_one_new _ _ _) ?c2 ?c3 ?c4 ?c5 ?_) | (go_at_call 33; refine (isHex_any _ _ (by omega) (by omega)).mono ?_; rintro e w' ⟨rfl, hw⟩; have hw := hw.symm; subst hw))
              case c2 => first | rfl | (intro u hu; simp at hu; subst hu; rfl)
              case c3 => first | (simp [maxLen]; omega) | (unfold maxLen; omega)
              case c4 => first | (simp; omega) | omega
              case c5 => first | (simp; omega) | omega
              intro v' w1 hown' hgrow hnil hat
              have R' := hid (R.put (by omega) HV.out hown' hgrow hnil (by simpa using hat))
              clear hown' hgrow hnil hat R
              go_wp2
              go_roundw
              case rel => exact ⟨k + 1, _, by omega, by go_num, R'.out⟩
              case measure => simp [intOf]; omega
        · have hE2 : (zs[k]?.getD 0 == 92) = false := by simp [hb]
          have HV : Hid (adq (zs.drop k) = shift [zs[k]?.getD 0] 1 (adq (zs.drop (k + 1)))) := by rw [Hid, dropc zs k (by rw [HL.out]; exact hlt), adq_plain _ hq hb]
          clear hq hb hc
          go_wp2_with (at_builtin; refine wpList_append_own_at _ rfl _ _ 22 rfl B 5 i0 (.int .u8 0) 1 1 Try.underlying22 hi hz0 hz1 hz2 rfl (by decide) _ _ _ rfl (R.own.alloc _) ⟨wr.heap.size, 0, none⟩ 1 1 [.int .u8 (zs[k]?.getD 0)] rfl rfl (cell_one_new _ _ _) ?c2 ?c3 ?c4 ?c5 ?_)
          case c2 => first | rfl | (intro u hu; simp at hu; subst hu; rfl)
          case c3 => first | (simp [maxLen]; omega) | (unfold maxLen; omega)
          case c4 => first | (simp; omega) | omega
          case c5 => first | (simp; omega) | omega
          intro v' w1 hown' hgrow hnil hat
          have R' := hid (R.put (by omega) HV.out hown' hgrow hnil (by simpa using hat))
          clear hown' hgrow hnil hat R
          go_wp2
          go_roundw
          case rel => exact ⟨k + 1, _, by omega, by go_num, R'.out⟩
          case measure => simp [intOf]; omega
    · have HV : Hid (adq (zs.drop k) = none) := by rw [Hid, List.drop_eq_nil_of_le (by rw [HL.out]; omega), adq_nil]
      go_wp2
      go_ret3
      exact R.fail HV.out

end Go.Proofs.Qxb6603819a
