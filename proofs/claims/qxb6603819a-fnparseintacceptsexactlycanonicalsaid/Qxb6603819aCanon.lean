/-
  'canonicalDecimal' walked: it computes 'canon'.
-/
import Derived.Test.Qxb6603819aHelp
import Derived.Test.Qxb6603819aPInt
namespace Go.Proofs.Qxb6603819a
open Go.RowKit

def lim (neg : Bool) : List Int := [57, 50, 50, 51, 51, 55, 50, 48, 51, 54, 56, 53, 52, 55, 55, 53, 56, 48, if neg then 56 else 55]

def cmpL : List Int → List Int → Bool
  | c :: r, l :: s => if c = l then cmpL r s else decide (c < l)
  | _, _ => true

def canonB (neg : Bool) (ds : List Int) : Bool :=
  if ds.length = 0 then false else if ds.all (fun c => decide (48 ≤ c ∧ c ≤ 57)) = false then false else
  if ds[0]?.getD 0 = 48 then (decide (ds.length = 1) && !neg) else
  if ds.length = 19 then cmpL ds (lim neg) else decide (ds.length < 19)

def canon (zs : List Int) : Bool := if zs.head? = some 45 then canonB true zs.tail else canonB false zs

theorem ret_bool {p q : Bool} (h : p = q) : Ending.returned (.bool p) = .returned (.bool q) := by rw [h]
theorem lim_len (neg : Bool) : (lim neg).length = 19 := rfl
theorem cmp_eq {neg : Bool} {zs : List Int} {k : Nat} (h : k < zs.length) (h2 : k < 19) (e : zs[k]?.getD 0 = (lim neg)[k]?.getD 0) : cmpL (zs.drop k) ((lim neg).drop k) = cmpL (zs.drop (k + 1)) ((lim neg).drop (k + 1)) := by
  rw [drop_cons zs k h, drop_cons (lim neg) k h2, cmpL, if_pos e]
theorem cmp_ne {neg : Bool} {zs : List Int} {k : Nat} (h : k < zs.length) (h2 : k < 19) (e : ¬ zs[k]?.getD 0 = (lim neg)[k]?.getD 0) : cmpL (zs.drop k) ((lim neg).drop k) = decide (zs[k]?.getD 0 < (lim neg)[k]?.getD 0) := by
  rw [drop_cons zs k h, drop_cons (lim neg) k h2, cmpL, if_neg e]
theorem all_bad {zs : List Int} {k : Nat} (h : k < zs.length) (e : zs[k]?.getD 0 < 48 ∨ 57 < zs[k]?.getD 0) (neg : Bool) : canonB neg zs = false := by
  unfold canonB
  split
  · rfl
  · rw [if_pos]
    rw [List.all_eq_false]
    refine ⟨zs[k], List.getElem_mem h, ?_⟩
    rw [List.getElem?_eq_getElem h] at e
    simp at e ⊢; omega
theorem all_step {zs : List Int} {k : Nat} (h : k < zs.length) (e : 48 ≤ zs[k]?.getD 0 ∧ zs[k]?.getD 0 ≤ 57) (ha : (zs.take k).all (fun c => decide (48 ≤ c ∧ c ≤ 57)) = true) : (zs.take (k + 1)).all (fun c => decide (48 ≤ c ∧ c ≤ 57)) = true := by
  rw [List.take_succ_eq_append_getElem h, List.all_append, ha]
  rw [List.getElem?_eq_getElem h] at e
  simpa using e
theorem all_done {zs : List Int} {k : Nat} (h : zs.length ≤ k) (h0 : 0 < zs.length) (ha : (zs.take k).all (fun c => decide (48 ≤ c ∧ c ≤ 57)) = true) (neg : Bool) :
    canonB neg zs = if zs[0]?.getD 0 = 48 then (decide (zs.length = 1) && !neg) else if zs.length = 19 then cmpL zs (lim neg) else decide (zs.length < 19) := by
  rw [List.take_of_length_le h] at ha
  unfold canonB
  rw [if_neg (by omega), if_neg (by rw [ha]; simp)]

set_option maxHeartbeats 400000 in
theorem canon_pos (a : Option Addr) (len cap : Nat) (zs : List Int) (w : World) (h : Rd w a len zs) (hm : len ≤ 1000000) (h0 : 0 < len) (hne : zs[0]?.getD 0 ≠ 45) :
    Calls Try.prog 12 #[.slice a len cap] w fun e w' => e = .returned (.bool (canonB false zs)) ∧ Sm w w' := by
  obtain ⟨b, off, rfl, hc⟩ := h.cells h0
  have HL : Hid (zs.length = len) := h.hlen
  have h8 := h.b8
  clear h
  have hc0 := hc 0 h0
  simp at hc0
  have hE : (zs[0]?.getD 0 == 45) = false := by simp [hne]
  have hlen0 : ((len : Int) == 0) = false := by simp; omega
  have hlen1 : (0 : Int) < len := by omega
  clear hne
  go_enter Try.func12, Try.ntmps12
  go_wp2
  go_loop [5] (fun i => ∃ k : Nat, k ≤ len ∧ i = .int .i64 k ∧ Hid ((zs.take k).all (fun c => decide (48 ≤ c ∧ c ≤ 57)) = true)) (fun i => len - (intOf i).toNat)
  case atStart => exact ⟨0, Nat.zero_le _, rfl, rfl⟩
  case round =>
    obtain ⟨k, hk, rfl, HA⟩ := hrel
    by_cases hlt : k < len
    · have hck := hc k hlt
      have hbk := h8.at k
      have hkl : Hid (k < zs.length) := by rw [Hid, HL.out]; exact hlt
      simp at hck
      clear hc
      by_cases h1 : zs[k]?.getD 0 < 48
      · go_wp2
        go_ret
        exact ⟨by rw [all_bad hkl.out (.inl (by omega))]; rfl, Sm.refl _⟩
      · by_cases h2 : 57 < zs[k]?.getD 0
        · go_wp2
          go_ret
          exact ⟨by rw [all_bad hkl.out (.inr (by omega))]; rfl, Sm.refl _⟩
        · go_wp2
          go_round
          case rel => exact ⟨k + 1, by omega, by go_num, all_step hkl.out (by omega) HA.out⟩
          case measure => simp [intOf]; omega
    · have HD := all_done (zs := zs) (k := k) (by rw [HL.out]; omega) (by rw [HL.out]; omega) HA.out false
      by_cases hz : zs[0]?.getD 0 = 48
      · have hE2 : (zs[0]?.getD 0 == 48) = true := by simp [hz]
        by_cases h1 : len = 1
        · have hE3 : ((len : Int) == 1) = true := by simp; omega
          have HD' : Hid (canonB false zs = true) := by rw [Hid, HD, if_pos hz, HL.out]; simp [h1]
          clear h1 hz HD
          go_wp2
          go_ret
          exact ⟨by rw [HD'.out]; rfl, Sm.refl _⟩
        · have hE3 : ((len : Int) == 1) = false := by simp; omega
          have HD' : Hid (canonB false zs = false) := by rw [Hid, HD, if_pos hz, HL.out]; simp [h1]
          clear h1 hz HD
          go_wp2
          go_ret
          exact ⟨by rw [HD'.out]; rfl, Sm.refl _⟩
      · have hE2 : (zs[0]?.getD 0 == 48) = false := by simp [hz]
        rw [if_neg hz] at HD
        clear hz
        by_cases h19 : len = 19
        · have hE3 : ((len : Int) != 19) = false := by simp; omega
          have H19 : Hid (len = 19) := h19
          have HD' : Hid (canonB false zs = cmpL zs (lim false)) := by rw [Hid, HD, HL.out, if_pos h19]
          clear h19 HD
          go_wp2
          generalize hS : (ByteArray.mk #[57, 50, 50, 51, 51, 55, 50, 48, 51, 54, 56, 53, 52, 55, 55, 53, 56, 48, 55]) = s
          have hs : s.size = 19 := by rw [← hS]; rfl
          have HS : Hid (∀ k (h : k < s.size), ((s[k].toNat : Nat) : Int) = (lim false)[k]?.getD 0) := by
            subst hS
            show ∀ k h, _
            decide
          clear hS
          go_loopw [7] (fun i wr => ∃ k : Nat, k ≤ 19 ∧ i = .int .i64 k ∧ Hid (cmpL zs (lim false) = cmpL (zs.drop k) ((lim false).drop k)) ∧ Sm w wr) (fun i _ => 19 - (intOf i).toNat)
          case atStart => exact ⟨0, by omega, rfl, rfl, Sm.refl _⟩
          case round =>
            obtain ⟨k, hk, rfl, HC, hsm⟩ := hrel
            by_cases hlt2 : k < 19
            · have hck : wr.cell? ⟨b, off + k, none⟩ = some (.int .u8 (zs[k]?.getD 0)) := by rw [hsm.cell, hc k (by rw [H19.out]; exact hlt2)]; simp
              have hlt3 : (k : Int) < 19 := by omega
              have hlt4 : (k : Int) < len := by rw [H19.out]; omega
              have hlt5 : k < s.size := by omega
              have HSk := HS.out k hlt5
              have HSk' : Hid (((s[k].toNat : Nat) : Int) = (lim false)[k]?.getD 0) := HSk
              have hkl : Hid (k < zs.length) := by rw [Hid, HL.out, H19.out]; exact hlt2
              clear hc HSk
              by_cases he : zs[k]?.getD 0 = s[k].toNat
              · have hE4 : (zs[k]?.getD 0 != (s[k].toNat : Int)) = false := by simp [he]
                have HE : Hid (zs[k]?.getD 0 = s[k].toNat) := he
                clear he
                go_wp2
                go_quiet (fail)
                go_wp2
                go_roundw
                case rel => exact ⟨k + 1, by omega, by go_num, HC.out.trans (cmp_eq hkl.out hlt2 (HE.out.trans HSk'.out)), hsm.trans (Sm.drewN _ _)⟩
                case measure => simp [intOf]; omega
              · have hE4 : (zs[k]?.getD 0 != (s[k].toNat : Int)) = true := by simp [he]
                have HE : Hid (canonB false zs = decide (zs[k]?.getD 0 < s[k].toNat)) := by
                  rw [Hid, HD'.out, HC.out, cmp_ne hkl.out hlt2 (by rw [← HSk'.out]; exact he), ← HSk'.out]
                clear he
                go_wp2
                go_quiet (fail)
                go_wp2
                go_quiet (fail)
                go_wp2
                go_ret
                exact ⟨by rw [HE.out]; rfl, (hsm.trans (Sm.drewN _ _)).trans (Sm.drewN _ _)⟩
            · have hge : ¬ (k : Int) < len := by rw [H19.out]; omega
              have HE : Hid (canonB false zs = true) := by
                rw [Hid, HD'.out, HC.out, List.drop_eq_nil_of_le (by rw [HL.out, H19.out]; omega)]; rfl
              go_wp2
              go_ret
              exact ⟨by rw [HE.out]; rfl, hsm⟩
        · have hE3 : ((len : Int) != 19) = true := by simp; omega
          have HD' : Hid (canonB false zs = decide (len < 19)) := by rw [Hid, HD, HL.out, if_neg h19]
          clear HD h19
          go_wp2
          go_ret
          exact ⟨by rw [HD'.out]; exact ret_bool (decide_eq_decide.2 (by omega)), Sm.refl _⟩

set_option maxHeartbeats 400000 in
theorem canon_minus (a : Option Addr) (cap : Nat) (zs : List Int) (w : World) (h : Rd w a 1 zs) (_hcap : 1 ≤ cap) (hne : zs[0]?.getD 0 = 45) :
    Calls Try.prog 12 #[.slice a 1 cap] w fun e w' => e = .returned (.bool false) ∧ Sm w w' := by
  obtain ⟨b, off, rfl, hc⟩ := h.cells (by omega)
  have hc0 := hc 0 (by omega)
  simp at hc0
  have hE : (zs[0]?.getD 0 == 45) = true := by simp [hne]
  clear hne h
  go_enter Try.func12, Try.ntmps12
  go_wp2
  all_goals
    go_ret
    exact ⟨rfl, Sm.refl _⟩

theorem canon_nil (a : Option Addr) (cap : Nat) (w : World) :
    Calls Try.prog 12 #[.slice a 0 cap] w fun e w' => e = .returned (.bool false) ∧ Sm w w' := by
  go_enter Try.func12, Try.ntmps12
  go_wp2
  go_ret
  exact ⟨rfl, Sm.refl _⟩

set_option maxHeartbeats 400000 in
theorem canon_neg (a : Option Addr) (len cap : Nat) (zs : List Int) (w : World) (h : Rd w a (len + 1) zs) (hcap : len + 1 ≤ cap) (hm : len ≤ 1000000) (h0 : 0 < len) (hne : zs[0]?.getD 0 = 45) :
    Calls Try.prog 12 #[.slice a (len + 1 : Nat) cap] w fun e w' => e = .returned (.bool (canonB true zs.tail)) ∧ Sm w w' := by
  obtain ⟨b, off, rfl, hc⟩ := h.cells (by omega)
  have hc0 := hc 0 (by omega)
  simp at hc0
  have hE : (zs[0]?.getD 0 == 45) = true := by simp [hne]
  have hlen0 : ((len : Int) == 0) = false := by simp; omega
  have hlen1 : (0 : Int) < len := by omega
  obtain ⟨ds, hds⟩ : ∃ ds, ds = zs.tail := ⟨_, rfl⟩
  have HL : Hid (ds.length = len) := by rw [Hid, hds, List.length_tail, h.hlen]; omega
  have h8 : B8 ds := fun z hz => h.b8 z (List.mem_of_mem_tail (hds ▸ hz))
  have hd : ∀ i, i < len → w.cell? ⟨b, off + 1 + i, none⟩ = some (.int .u8 (ds[i]?.getD 0)) := fun i hi => by
    have := hc (i + 1) (by omega)
    rw [show off + 1 + i = off + (i + 1) by omega, this, hds]
    simp [List.getElem?_tail]
  rw [← hds]
  have hd0 := hd 0 h0
  simp at hd0
  clear hne h hc hds
  go_enter Try.func12, Try.ntmps12
  go_wp2
  go_loop [5] (fun i => ∃ k : Nat, k ≤ len ∧ i = .int .i64 k ∧ Hid ((ds.take k).all (fun c => decide (48 ≤ c ∧ c ≤ 57)) = true)) (fun i => len - (intOf i).toNat)
  case atStart => exact ⟨0, Nat.zero_le _, rfl, rfl⟩
  case round =>
    obtain ⟨k, hk, rfl, HA⟩ := hrel
    by_cases hlt : k < len
    · have hck := hd k hlt
      have hbk := h8.at k
      have hkl : Hid (k < ds.length) := by rw [Hid, HL.out]; exact hlt
      clear hd
      by_cases h1 : ds[k]?.getD 0 < 48
      · go_wp2
        go_ret
        exact ⟨by rw [all_bad hkl.out (.inl (by omega))]; rfl, Sm.refl _⟩
      · by_cases h2 : 57 < ds[k]?.getD 0
        · go_wp2
          go_ret
          exact ⟨by rw [all_bad hkl.out (.inr (by omega))]; rfl, Sm.refl _⟩
        · go_wp2
          go_round
          case rel => exact ⟨k + 1, by omega, by go_num, all_step hkl.out (by omega) HA.out⟩
          case measure => simp [intOf]; omega
    · have HD := all_done (zs := ds) (k := k) (by rw [HL.out]; omega) (by rw [HL.out]; omega) HA.out true
      by_cases hz : ds[0]?.getD 0 = 48
      · have hE2 : (ds[0]?.getD 0 == 48) = true := by simp [hz]
        by_cases h1 : len = 1
        · have hE3 : ((len : Int) == 1) = true := by simp; omega
          have HD' : Hid (canonB true ds = false) := by rw [Hid, HD, if_pos hz]; simp
          clear h1 hz HD
          go_wp2
          go_ret
          exact ⟨by rw [HD'.out]; rfl, Sm.refl _⟩
        · have hE3 : ((len : Int) == 1) = false := by simp; omega
          have HD' : Hid (canonB true ds = false) := by rw [Hid, HD, if_pos hz, HL.out]; simp [h1]
          clear h1 hz HD
          go_wp2
          go_ret
          exact ⟨by rw [HD'.out]; rfl, Sm.refl _⟩
      · have hE2 : (ds[0]?.getD 0 == 48) = false := by simp [hz]
        rw [if_neg hz] at HD
        clear hz
        by_cases h19 : len = 19
        · have hE3 : ((len : Int) != 19) = false := by simp; omega
          have H19 : Hid (len = 19) := h19
          have HD' : Hid (canonB true ds = cmpL ds (lim true)) := by rw [Hid, HD, HL.out, if_pos h19]
          clear h19 HD
          go_wp2
          generalize hS : (ByteArray.mk #[57, 50, 50, 51, 51, 55, 50, 48, 51, 54, 56, 53, 52, 55, 55, 53, 56, 48, 56]) = s
          have hs : s.size = 19 := by rw [← hS]; rfl
          have HS : Hid (∀ k (h : k < s.size), ((s[k].toNat : Nat) : Int) = (lim true)[k]?.getD 0) := by
            subst hS
            show ∀ k h, _
            decide
          clear hS
          go_loopw [7] (fun i wr => ∃ k : Nat, k ≤ 19 ∧ i = .int .i64 k ∧ Hid (cmpL ds (lim true) = cmpL (ds.drop k) ((lim true).drop k)) ∧ Sm w wr) (fun i _ => 19 - (intOf i).toNat)
          case atStart => exact ⟨0, by omega, rfl, rfl, Sm.refl _⟩
          case round =>
            obtain ⟨k, hk, rfl, HC, hsm⟩ := hrel
            by_cases hlt2 : k < 19
            · have hck : wr.cell? ⟨b, off + 1 + k, none⟩ = some (.int .u8 (ds[k]?.getD 0)) := by rw [hsm.cell, hd k (by rw [H19.out]; exact hlt2)]
              have hlt3 : (k : Int) < 19 := by omega
              have hlt4 : (k : Int) < len := by rw [H19.out]; omega
              have hlt5 : k < s.size := by omega
              have HSk := HS.out k hlt5
              have HSk' : Hid (((s[k].toNat : Nat) : Int) = (lim true)[k]?.getD 0) := HSk
              have hkl : Hid (k < ds.length) := by rw [Hid, HL.out, H19.out]; exact hlt2
              clear hd HSk
              by_cases he : ds[k]?.getD 0 = s[k].toNat
              · have hE4 : (ds[k]?.getD 0 != (s[k].toNat : Int)) = false := by simp [he]
                have HE : Hid (ds[k]?.getD 0 = s[k].toNat) := he
                clear he
                go_wp2
                go_quiet (fail)
                go_wp2
                go_roundw
                case rel => exact ⟨k + 1, by omega, by go_num, HC.out.trans (cmp_eq hkl.out hlt2 (HE.out.trans HSk'.out)), hsm.trans (Sm.drewN _ _)⟩
                case measure => simp [intOf]; omega
              · have hE4 : (ds[k]?.getD 0 != (s[k].toNat : Int)) = true := by simp [he]
                have HE : Hid (canonB true ds = decide (ds[k]?.getD 0 < s[k].toNat)) := by
                  rw [Hid, HD'.out, HC.out, cmp_ne hkl.out hlt2 (by rw [← HSk'.out]; exact he), ← HSk'.out]
                clear he
                go_wp2
                go_quiet (fail)
                go_wp2
                go_quiet (fail)
                go_wp2
                go_ret
                exact ⟨by rw [HE.out]; rfl, (hsm.trans (Sm.drewN _ _)).trans (Sm.drewN _ _)⟩
            · have hge : ¬ (k : Int) < len := by rw [H19.out]; omega
              have HE : Hid (canonB true ds = true) := by
                rw [Hid, HD'.out, HC.out, List.drop_eq_nil_of_le (by rw [HL.out, H19.out]; omega)]; rfl
              go_wp2
              go_ret
              exact ⟨by rw [HE.out]; rfl, hsm⟩
        · have hE3 : ((len : Int) != 19) = true := by simp; omega
          have HD' : Hid (canonB true ds = decide (len < 19)) := by rw [Hid, HD, HL.out, if_neg h19]
          clear HD h19
          go_wp2
          go_ret
          exact ⟨by rw [HD'.out]; exact ret_bool (decide_eq_decide.2 (by omega)), Sm.refl _⟩

/-- 'canonicalDecimal' computes 'canon', and only reads. -/
theorem canon_any (a : Option Addr) (len cap : Nat) (zs : List Int) (w : World) (h : Rd w a len zs) (hcap : len ≤ cap) (hm : len ≤ 1000000) :
    Calls Try.prog 12 #[.slice a len cap] w fun e w' => e = .returned (.bool (canon zs)) ∧ Sm w w' := by
  have hl := h.hlen
  match zs, h, hl with
  | [], h, hl => subst hl; exact canon_nil a cap w
  | z :: r, h, hl =>
    simp at hl
    subst hl
    by_cases hz : z = 45
    · subst hz
      have e : canon (45 :: r) = canonB true r := by simp [canon]
      rw [e]
      cases r with
      | nil => exact canon_minus a cap [45] w h hcap rfl
      | cons y q => exact canon_neg a (q.length + 1) cap (45 :: y :: q) w h hcap (by simp at hm; omega) (by omega) rfl
    · have e : canon (z :: r) = canonB false (z :: r) := by simp [canon, hz]
      rw [e]
      exact canon_pos a (r.length + 1) cap (z :: r) w h hm (by omega) (by simpa using hz)

end Go.Proofs.Qxb6603819a
