/-
  What all walks of this seat share: a slice of bytes that can be read ('Rd'), one that the call owns ('Own'), and small laws on worlds.
-/
import Derived.Test.Qxb6603819aRows
import Derived.WalkKit
namespace Go.Proofs.Qxb6603819a
open Go.RowKit

theorem Try.info5 : (Try.prog.info? 5).map (fun i => (i.zero, i.size, i.bytes)) = some (some (.int .u8 0), 1, 1) := by kernel_rfl

/-- Every number of the list is a byte. -/
def B8 (zs : List Int) : Prop := ∀ z ∈ zs, 0 ≤ z ∧ z ≤ 255

/-- The slice with address a and length len reads as the bytes zs. -/
structure Rd (w : World) (a : Option Addr) (len : Nat) (zs : List Int) : Prop where
  hlen : zs.length = len
  b8 : B8 zs
  cells : 0 < len → ∃ b off, a = some ⟨b, off, none⟩ ∧ ∀ i, i < len → w.cell? ⟨b, off + i, none⟩ = some (.int .u8 (zs.getD i 0))

/-- The value v is a slice of bytes of the call's own (blocks from B on) that reads as zs. -/
def Own (B : Nat) (w : World) (v : Value) (zs : List Int) : Prop := w.ownsRow B 5 1 v zs.length (zs.map (Value.int .u8))

theorem B8.nil : B8 [] := fun _ h => by simp at h
theorem B8.snoc {zs : List Int} {c : Int} (h : B8 zs) (hc : 0 ≤ c ∧ c ≤ 255) : B8 (zs ++ [c]) := by
  intro z hz
  rcases List.mem_append.1 hz with h1 | h1
  · exact h z h1
  · simp at h1; subst h1; exact hc
theorem B8.at {zs : List Int} (h : B8 zs) (i : Nat) : 0 ≤ zs[i]?.getD 0 ∧ zs[i]?.getD 0 ≤ 255 := by
  by_cases hi : i < zs.length
  · rw [List.getElem?_eq_getElem hi]; exact h _ (List.getElem_mem hi)
  · rw [List.getElem?_eq_none (by omega)]; simp

theorem Rd.mono {w w' : World} {a : Option Addr} {len : Nat} {zs : List Int} {B : Nat} (h : Rd w a len zs) (hb : Below B w w') (hB : ∀ x, a = some x → x.block < B) : Rd w' a len zs := by
  refine ⟨h.hlen, h.b8, fun hp => ?_⟩
  obtain ⟨b, off, rfl, hc⟩ := h.cells hp
  exact ⟨b, off, rfl, fun i hi => (hb.cell (by have := hB _ rfl; exact this)).trans (hc i hi)⟩

theorem Own.rd {B : Nat} {w : World} {a : Option Addr} {n c : Nat} {zs : List Int} (h : Own B w (.slice a n c) zs) (h8 : B8 zs) : Rd w a n zs := by
  have hn : zs.length = n := by
    rcases h.2 with ⟨h1, h2⟩ | ⟨g, cap, cur, h1, _⟩
    · simp at h1; omega
    · simp at h1; omega
  subst hn
  refine ⟨rfl, h8, fun hp => ?_⟩
  rcases h.2 with ⟨h1, h2⟩ | ⟨g, cap, cur, h1, _⟩
  · omega
  · simp only [Value.slice.injEq, true_and] at h1
    obtain ⟨rfl, rfl⟩ := h1
    refine ⟨g, 0, rfl, fun i hi => ?_⟩
    rw [World.ownsRow.cellAt h (0 + i) (by omega)]
    simp [hi]

/-- What shape an owned value has. -/
theorem Own.shape {B : Nat} {w : World} {v : Value} {zs : List Int} (h : Own B w v zs) : (v = .slice none 0 0 ∧ zs = []) ∨ ∃ g cap, v = .slice (some ⟨g, 0, none⟩) zs.length cap ∧ B ≤ g ∧ g < w.heap.size ∧ zs.length ≤ cap := by
  rcases h.2 with ⟨h1, h2⟩ | ⟨g, cap, cur, h1, h2, h3, h4, _⟩
  · exact .inl ⟨h1, List.eq_nil_of_length_eq_zero h2⟩
  · exact .inr ⟨g, cap, h1, h2, (Array.getElem?_eq_some_iff.1 h3).1, h4⟩

theorem Own.cap {B : Nat} {w : World} {a : Option Addr} {n c : Nat} {zs : List Int} (h : Own B w (.slice a n c) zs) : zs.length = n ∧ n ≤ c := by
  rcases h.shape with ⟨h1, rfl⟩ | ⟨g, cap, h1, _, _, h2⟩
  · simp at h1; exact ⟨by simp [h1.2.1], by omega⟩
  · simp at h1; exact ⟨h1.2.1.symm, by omega⟩

/-- A copy under way: the new row g of n bytes holds the first k bytes of s, then zeros. -/
def Cp (B g : Nat) (w : World) (n k : Nat) (s : List Int) : Prop := w.ownsRow B 5 1 (.slice (some ⟨g, 0, none⟩) n n) n ((s.take k).map (Value.int .u8) ++ List.replicate (n - k) (Value.int .u8 0))

theorem Cp.start {B g : Nat} {w : World} {n : Nat} (s : List Int) (h : w.ownsRow B 5 1 (.slice (some ⟨g, 0, none⟩) n n) n (madeCells #[Value.int .u8 0] n).toList) : Cp B g w n 0 s := by
  rw [toList_madeCells_one] at h
  simpa [Cp] using h
theorem Cp.cell {B g : Nat} {w : World} {n k : Nat} {s : List Int} (h : Cp B g w n k s) (hk : k < n) : ∃ v, w.cell? ⟨g, k, none⟩ = some v := by
  rw [World.ownsRow.cellAt h k (by omega)]
  have := h.1
  exact ⟨_, List.getElem?_eq_getElem (by omega)⟩
theorem Cp.free {B g : Nat} {w : World} {n k : Nat} {s : List Int} (h : Cp B g w n k s) (j : Nat) : w.frozen? ⟨g, j, none⟩ = false := World.ownsRow.frozenAt h j
theorem Cp.put {B g : Nat} {w : World} {n k : Nat} {s : List Int} (h : Cp B g w n k s) (hk : k < n) (hs : k < s.length) : Cp B g (w.setCell ⟨g, k, none⟩ (.int .u8 (s[k]?.getD 0))) n (k + 1) s := by
  have h2 := (World.ownsRow.stored h k (.int .u8 (s[k]?.getD 0))).1
  unfold Cp
  have e : ((s.take k).map (Value.int .u8) ++ List.replicate (n - k) (Value.int .u8 0)).set k (.int .u8 (s[k]?.getD 0)) = (s.take (k + 1)).map (Value.int .u8) ++ List.replicate (n - (k + 1)) (Value.int .u8 0) := by
    rw [List.set_append, if_neg (by simp; omega)]
    have hl : ((s.take k).map (Value.int .u8)).length = k := by simp; omega
    rw [hl, Nat.sub_self, show n - k = (n - (k + 1)) + 1 by omega, List.replicate_succ, List.set_cons_zero, List.take_succ_eq_append_getElem hs, List.getElem?_eq_getElem hs, List.map_append, List.append_assoc]
    rfl
  rw [← e]; exact h2
theorem Cp.done {B g : Nat} {w : World} {n : Nat} {s : List Int} (h : Cp B g w n n s) (hs : s.length = n) : Own B w (.slice (some ⟨g, 0, none⟩) n n) s := by
  unfold Cp at h
  rw [List.take_of_length_le (by omega), Nat.sub_self] at h
  unfold Own
  rw [hs]
  simpa using h

end Go.Proofs.Qxb6603819a
