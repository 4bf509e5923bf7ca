/-
  'Rows.FnSplitArgsInvertsQuotedJoinSaid', proved: the seat's frame for slices, turned to a slice of slices of bytes.
-/
import Derived.Test.Qxb6603819aJoinWalk
import Derived.WalkKit
import Derived.ProofKit
import Derived.OpenShut
import Derived.ShutString
import Derived.ChangeOld
import Derived.Below
import Derived.SliceStrings
namespace Go.Proofs.Qxb6603819a.fnSplitArgsInvertsQuotedJoin
open Go.ChangeShapes Go.WideShapes Go.ChangeAt Go.RowKit
open Go.ChangeMaps (open_string shut_string)
set_option linter.unusedVariables false

theorem own : ownKnob Try.prog.godebug = none := by kernel_rfl
theorem laidOut : laidOutB Try.prog = true := by kernel_rfl
theorem cells22 : Try.prog.cellsOf 22 = 1 := by kernel_rfl
theorem cells5 : Try.prog.cellsOf 5 = 1 := by kernel_rfl

/-- What the walk is told of the argument, out of its reading. -/
theorem open_ss {H : Type} {enc : TypeId × Value → H} {W : World} {fuel : Nat} {a0 : Option Addr} {len0 cap0 : Nat} {x : DataW H × List MemPlace} (hf : DataW.trod enc Try.prog W 0 (fun _ => true) true fuel 30 [.slice a0 len0 cap0] = some x) :
    ∃ zss, ArgSS W a0 len0 zss ∧ ∀ z ∈ zss, B8 z := by
  rcases DataW.trod_slice Try.underlying30 hf with ⟨hcs, _⟩ | ⟨a, len, cap, elems, rest, n, _, hcs, _, hb, hl, hm, hlen, hel, _, _⟩
  · simp only [List.cons.injEq, Value.slice.injEq, and_true] at hcs
    obtain ⟨rfl, rfl, rfl⟩ := hcs
    exact ⟨[], ⟨rfl, fun _ => rfl, by omega, fun h => by omega⟩, fun z hz => by simp at hz⟩
  · simp only [List.cons.injEq, Value.slice.injEq, and_true] at hcs
    obtain ⟨rfl, rfl, rfl⟩ := hcs
    have each : ∀ i, ∃ zs : List Int, i < len0 → ∃ u m c, W.cell? (a.add i) = some (.slice u m c) ∧ Arg W u m zs := by
      intro i
      by_cases hi : i < len0
      · have h1 := hel i hi
        rw [cells22, Nat.mul_one, List.getElem?_eq_getElem (by omega), Option.bind_eq_some_iff] at h1
        obtain ⟨cs', hcs', hy⟩ := h1
        rcases open_ints Try.underlying22 Try.underlying5 cells5 hy with ⟨e, _⟩ | ⟨y, l, c, zs, e, _, hl2, hm2, hz2, _, hcell, hwz⟩
        · subst e
          refine ⟨_, fun _ => ⟨none, 0, 0, cell_of_cells?_one hcs', arg_of_row (cap := 0) (zs := []) (.inl ⟨rfl, rfl, rfl, rfl⟩)⟩⟩
        · subst e
          refine ⟨_, fun _ => ⟨some y, l, c, cell_of_cells?_one hcs', arg_of_row (cap := c) (zs := zs) (.inr ⟨y, rfl, hl2, hm2, by simpa using hz2, hcell, hwz⟩)⟩⟩
      · exact ⟨[], fun h => absurd h hi⟩
    obtain ⟨f, hfc⟩ := Classical.skolem.1 each
    have hget : ∀ i, i < len0 → ((List.range len0).map f).getD i [] = f i := fun i hi => by simp [hi]
    refine ⟨(List.range len0).map f, ⟨by simp, fun h => by simp at h, by unfold maxLen at hm; omega, fun hp => ?_⟩, fun z hz => ?_⟩
    · obtain ⟨u, m, c, h1, _⟩ := hfc 0 hp
      obtain ⟨b, off, spot⟩ := a
      have hspot : spot = none := by simpa [Addr.add] using World.cell?_spot h1
      subst hspot
      refine ⟨b, off, rfl, ?_, fun i hi => ?_⟩
      · have := cell_lt' h1
        rw [add_plain] at this
        exact this
      · obtain ⟨u, m, c, h2, h3⟩ := hfc i hi
        rw [add_plain] at h2
        exact ⟨u, m, c, h2, by rw [hget i hi]; exact h3⟩
    · simp only [List.mem_map, List.mem_range] at hz
      obtain ⟨i, hi, rfl⟩ := hz
      obtain ⟨u, m, c, _, h3⟩ := hfc i hi
      exact h3.rd.b8

set_option maxRecDepth 100000 in
theorem lifted (os : Os) (started : os.Started) (H : Type) (enc : TypeId × Value → H) :
    ReturnsInHanded {} Try.checked os 6 .any (Rows.fnSplitArgsInvertsQuotedJoinSpec.pre6 enc Try.prog Try.f6 Rows.fnSplitArgsInvertsQuotedJoinRow.domain false) (Rows.fnSplitArgsInvertsQuotedJoinSpec.post enc Try.prog Try.f6 false true false false) := by
  refine returnsInHanded_of_change (C := Try.checked) own started (by kernel_rfl) Try.func6
    (ChangeSpec.witness6 (enc := enc) (C := Try.checked) false ⟨#[], #[.slice none 0 0], []⟩ 8 (by kernel_rfl) (by kernel_rfl) (by kernel_rfl) (by kernel_rfl)) ?_
  intro W base args ds gs before hval0 hW hcnd _
  have hval : ∀ (j : Nat) t v, Try.f6.params[j]? = some t → args[j]? = some v → Value.okWide Try.prog W .any base t v := hval0
  have hW' := hW
  obtain ⟨p, q, hA0, hV, rfl, hfz, hnd⟩ := hW
  have hA : DataW.TrodAll enc Try.prog W 0 (fun _ => true) true Try.f6.params.toList args.toList ds p := hA0
  rw [Try.params6] at hA hval
  obtain ⟨v0, vs0, d0, ds0, p0, q0, hargs, rfl, rfl, h0, r0⟩ := trodAll_cons hA
  obtain ⟨rfl, rfl, rfl⟩ := trodAll_nil r0
  obtain rfl : args = #[v0] := by cases args; simp_all
  obtain ⟨rfl, rfl⟩ := trodVars_none hV
  obtain ⟨a0, len0, cap0, rfl⟩ := okWide_slice Try.underlying30 (hval 0 30 v0 rfl rfl)
  have k0 := h0
  have lt0 : ∀ x ∈ p0, x.block < W.heap.size := by obtain ⟨m, hm⟩ := k0; exact DataW.trod_lt m _ _ _ hm
  obtain ⟨fuel, hf⟩ := h0
  obtain ⟨zss, w0, w8⟩ := open_ss hf
  clear hA0 hval0
  refine (joinlaw_walk a0 len0 cap0 zss W w0 w8).mono fun e W' ⟨he, bel⟩ => ?_
  subst he
  exact ⟨_, rfl, _, _, _, [], _, [], hW', trodAll_mk1 (shut_bool Try.underlying4 _), (trodAll_cons_mk (Below.trod laidOut (by kernel_rfl) (of_decide_eq_true (by kernel_rfl)) k0 bel lt0) trodAll_mk0), rfl, bel.frame _, fun h => by cases h⟩

theorem over : Rows.fnSplitArgsInvertsQuotedJoinRow.holds Try.pinned (OpenSpec.ofChange Rows.fnSplitArgsInvertsQuotedJoinSpec) :=
  OpenClaim.holds_of_wide 6 Try.f6 rfl rfl rfl rfl rfl rfl rfl ⟨rfl, rfl, rfl, rfl, rfl⟩ rfl rfl rfl rfl rfl (by kernel_rfl) Try.func6 (by kernel_rfl)
    (of_decide_eq_true (by kernel_rfl)) (by unfold Func.isWrapper; first | (rw [if_pos (by decide +kernel)]; kernel_rfl) | (rw [if_neg (by decide +kernel)]; exact ⟨rfl, rfl⟩))
    (fun os started H enc _ => lifted os started H enc)

/-- ████ THE STATEMENT ████ -/
theorem proved : Rows.FnSplitArgsInvertsQuotedJoinSaid := over
#print axioms proved
end Go.Proofs.Qxb6603819a.fnSplitArgsInvertsQuotedJoin
