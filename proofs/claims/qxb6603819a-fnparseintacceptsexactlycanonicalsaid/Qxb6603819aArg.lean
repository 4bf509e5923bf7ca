/-
  A slice of bytes that came in, as the shells tell it, read as 'Rd'.
-/
import Derived.Test.Qxb6603819aHelp
import Derived.ProofKit
import Derived.OpenShut
namespace Go.Proofs.Qxb6603819a
open Go.ChangeShapes Go.WideShapes Go.ChangeAt Go.RowKit

theorem cell_lt' {w : World} {a : Addr} {v : Value} (h : w.cell? a = some v) : a.block < w.heap.size := by
  refine Nat.lt_of_not_le fun hn => ?_
  have : w.heap[a.block]? = none := by simp; omega
  simp [World.cell?, this] at h

/-- What a slice that came in is good for. -/
structure Arg (w : World) (a : Option Addr) (len : Nat) (zs : List Int) : Prop where
  rd : Rd w a len zs
  nil : a = none → len = 0
  old : ∀ x, a = some x → 0 < len → x.block < w.heap.size
  max : len ≤ 9223372036854775807

theorem arg_of_row {w : World} {a : Option Addr} {len cap : Nat} {zs : List Int}
    (h : (a = none ∧ len = 0 ∧ cap = 0 ∧ zs = []) ∨
      ∃ x, a = some x ∧ len ≤ cap ∧ cap ≤ maxLen ∧ zs.length = cap ∧ (∀ i, i < zs.length → w.cell? (x.add i) = some (.int .u8 (zs.getD i 0))) ∧ ∀ n ∈ zs, (Lit.int .u8 n).wf = true) :
    Arg w a len (zs.take len) := by
  rcases h with ⟨rfl, rfl, rfl, rfl⟩ | ⟨x, rfl, h1, h2, h3, h4, h5⟩
  · exact ⟨⟨rfl, B8.nil, fun h => by omega⟩, fun _ => rfl, fun x h => by simp at h, by omega⟩
  · refine ⟨⟨by simp; omega, fun z hz => bounds_u8 (h5 z (List.mem_of_mem_take hz)), fun h => ?_⟩, fun h => by simp at h, ?_, by unfold maxLen at h2; omega⟩
    · obtain ⟨b, off, spot⟩ := x
      have hspot : spot = none := by simpa [Addr.add] using World.cell?_spot (h4 0 (by omega))
      subst hspot
      refine ⟨b, off, rfl, fun i hi => ?_⟩
      have := h4 i (by omega)
      rw [add_plain] at this
      rw [this]
      simp [hi]
    · intro y hy h0
      simp only [Option.some.injEq] at hy
      subst hy
      have := h4 0 (by omega)
      exact cell_lt' this

theorem Arg.mono {w w' : World} {a : Option Addr} {len : Nat} {zs : List Int} {B : Nat} (h : Arg w a len zs) (hb : Below B w w') (hB : w.heap.size ≤ B) : Arg w' a len zs := by
  refine ⟨⟨h.rd.hlen, h.rd.b8, fun hp => ?_⟩, h.nil, fun x hx h0 => Nat.lt_of_lt_of_le (h.old x hx h0) hb.size, h.max⟩
  obtain ⟨b, off, rfl, hc⟩ := h.rd.cells hp
  have := h.old _ rfl hp
  exact ⟨b, off, rfl, fun i hi => (hb.cell (by exact Nat.lt_of_lt_of_le this hB)).trans (hc i hi)⟩

theorem Own.arg {B : Nat} {w : World} {u : Option Addr} {n c : Nat} {zs : List Int} (h : Own B w (.slice u n c) zs) (h8 : B8 zs) (hm : zs.length ≤ 9223372036854775807) : Arg w u n zs := by
  have hc := h.cap
  refine ⟨h.rd h8, fun hn => ?_, fun x hx h0 => ?_, by omega⟩
  · rcases h.shape with ⟨h1, rfl⟩ | ⟨g, cap, h1, _⟩
    · simp at hc; omega
    · subst hn; simp at h1
  · rcases h.shape with ⟨h1, rfl⟩ | ⟨g, cap, h1, _, h2, _⟩
    · simp at hc; omega
    · subst hx; simp at h1; rw [h1.1]; exact h2

theorem clone_arg (a : Option Addr) (len cap : Nat) (zs : List Int) (w : World) (h : Arg w a len zs) (hm : len ≤ 1000000) :
    Calls Try.prog 10 #[.slice a len cap] w fun e w' => ∃ u n c, e = .returned (.slice u n c) ∧ Own w.heap.size w' (.slice u n c) zs ∧ Below w.heap.size w w' ∧ (u.isNone = a.isNone) :=
  clone_any a len cap zs w h.rd h.nil hm h.old

end Go.Proofs.Qxb6603819a
