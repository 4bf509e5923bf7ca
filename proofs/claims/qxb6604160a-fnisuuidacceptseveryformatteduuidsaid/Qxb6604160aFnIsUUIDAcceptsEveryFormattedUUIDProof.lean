/-
  'Rows.FnIsUUIDAcceptsEveryFormattedUUIDSaid', proved: the guide's frame, turned to an array of bytes by value and a bool.
-/
import Derived.Test.Qxb6604160aUuidWalk
import Derived.WalkKit
import Derived.ProofKit
import Derived.OpenShut
import Derived.ShutString
import Derived.ChangeOld
import Derived.Below
namespace Go.Proofs.Qxb6604160a.fnIsUUIDAcceptsEveryFormattedUUID
open Go.ChangeShapes Go.WideShapes Go.ChangeAt Go.RowKit
open Go.ChangeMaps (open_string shut_string)
set_option linter.unusedVariables false

theorem own : ownKnob Try.prog.godebug = none := by kernel_rfl
theorem laidOut : laidOutB Try.prog = true := by kernel_rfl
theorem cells23 : Try.prog.cellsOf 23 = 16 := by kernel_rfl
theorem cells5 : Try.prog.cellsOf 5 = 1 := by kernel_rfl

theorem okWide_arr {P : Program} {w : World} {r : Reach} {base : Nat} {t e : TypeId} {n : Nat} {v : Value} (ht : P.underlying t = some (.array n e)) (h : Value.okWide P w r base t v) : ∃ cs, v = .agg cs ∧ cs.size = P.cellsOf t := by
  simp only [Value.okWide, ht] at h
  obtain ⟨cs, h1, h2, _⟩ := h
  exact ⟨cs, h1, h2⟩

/-- The sixteen cells of the array, as bytes. -/
theorem open_arr {H : Type} {enc : TypeId × Value → H} {W : World} {base fuel : Nat} {sp : Nat → Bool} {held : Bool} {cs : Array Value} {x : DataW H × List MemPlace} (hs : cs.size = 16)
    (h : DataW.trod enc Try.prog W base sp held fuel 23 cs.toList = some x) :
    ∃ bs : List Int, (∀ i : Nat, 0 ≤ bs[i]?.getD 0 ∧ bs[i]?.getD 0 ≤ 255) ∧ ∀ i : Nat, i < 16 → cs[i]? = some (.int .u8 (bs[i]?.getD 0)) := by
  obtain ⟨xs, m, _, _, _, hl, hi⟩ := DataW.trod_array Try.underlying23 h
  have each : ∀ i : Nat, i < 16 → ∃ n : Int, cs[i]? = some (.int .u8 n) ∧ 0 ≤ n ∧ n ≤ 255 := by
    intro i h16
    have h1 := hi i h16
    rw [cells5, Nat.mul_one, List.getElem?_eq_getElem (by omega)] at h1
    obtain ⟨n, e1, _, wf⟩ := DataW.trod_int Try.underlying5 h1
    have hb := bounds_u8 wf
    refine ⟨n, ?_, hb.1, hb.2⟩
    have e2 := congrArg (fun l => l[0]?) e1
    simp at e2
    simpa using e2
  refine ⟨(List.range 16).map (fun i => intOf (cs[i]?.getD undef)), fun i => ?_, fun i h16 => ?_⟩
  · by_cases h16 : i < 16
    · obtain ⟨n, e, h0, h1⟩ := each i h16
      simp [h16, e, intOf, h0, h1]
    · rw [List.getElem?_eq_none (by simp; omega)]; simp
  · obtain ⟨n, e, h0, h1⟩ := each i h16
    simp [h16, e, intOf]

set_option maxRecDepth 100000 in
theorem lifted (os : Os) (started : os.Started) (H : Type) (enc : TypeId × Value → H) :
    ReturnsInHanded {} Try.checked os 4 .any (Rows.fnIsUUIDAcceptsEveryFormattedUUIDSpec.pre6 enc Try.prog Try.f4 Rows.fnIsUUIDAcceptsEveryFormattedUUIDRow.domain false) (Rows.fnIsUUIDAcceptsEveryFormattedUUIDSpec.post enc Try.prog Try.f4 false true false false) := by
  refine returnsInHanded_of_change (C := Try.checked) own started (by kernel_rfl) Try.func4
    (ChangeSpec.witness6 (enc := enc) (C := Try.checked) false ⟨#[], #[.agg #[.int .u8 0, .int .u8 0, .int .u8 0, .int .u8 0, .int .u8 0, .int .u8 0, .int .u8 0, .int .u8 0, .int .u8 0, .int .u8 0, .int .u8 0, .int .u8 0, .int .u8 0, .int .u8 0, .int .u8 0, .int .u8 0], .bool false], []⟩ 8 (by kernel_rfl) (by kernel_rfl) (by kernel_rfl) (by kernel_rfl)) ?_
  intro W base args ds gs before hval0 hW hcnd _
  have hval : ∀ (j : Nat) t v, Try.f4.params[j]? = some t → args[j]? = some v → Value.okWide Try.prog W .any base t v := hval0
  have hW' := hW
  obtain ⟨p, q, hA0, hV, rfl, hfz, hnd⟩ := hW
  have hA : DataW.TrodAll enc Try.prog W 0 (fun _ => true) true Try.f4.params.toList args.toList ds p := hA0
  rw [Try.params4] at hA hval
  obtain ⟨v0, vs0, d0, ds0, p0, q0, hargs, rfl, rfl, h0, r0⟩ := trodAll_cons hA
  obtain ⟨v1, vs1, d1, ds1, p1, q1, rfl, rfl, rfl, h1, r1⟩ := trodAll_cons r0
  obtain ⟨rfl, rfl, rfl⟩ := trodAll_nil r1
  obtain rfl : args = #[v0, v1] := by cases args; simp_all
  obtain ⟨rfl, rfl⟩ := trodVars_none hV
  obtain ⟨cs, rfl, hcs⟩ := okWide_arr Try.underlying23 (hval 0 23 v0 rfl rfl)
  have k1 := h1
  obtain ⟨u, rfl, rfl, rfl⟩ := open_bool Try.underlying4 (hval 1 4 v1 rfl rfl) h1
  have k0 := h0
  have lt0 : ∀ x ∈ p0, x.block < W.heap.size := by obtain ⟨m, hm⟩ := k0; exact DataW.trod_lt m _ _ _ hm
  obtain ⟨fuel, hf⟩ := h0
  obtain ⟨bs, hb, hc⟩ := open_arr (hcs.trans cells23) hf
  clear hA0 hval0
  refine (uuid_walk cs bs u W hb hc).mono fun e W' ⟨he, bel⟩ => ?_
  subst he
  exact ⟨_, rfl, _, _, _, [], _, [], hW', trodAll_mk1 (shut_bool Try.underlying4 _), (trodAll_cons_mk (Below.trod laidOut (by kernel_rfl) (of_decide_eq_true (by kernel_rfl)) k0 bel lt0) (trodAll_cons_mk (shut_bool Try.underlying4 u) trodAll_mk0)), rfl, bel.frame _, fun h => by cases h⟩

theorem over : Rows.fnIsUUIDAcceptsEveryFormattedUUIDRow.holds Try.pinned (OpenSpec.ofChange Rows.fnIsUUIDAcceptsEveryFormattedUUIDSpec) :=
  OpenClaim.holds_of_wide 4 Try.f4 rfl rfl rfl rfl rfl rfl rfl ⟨rfl, rfl, rfl, rfl, rfl⟩ rfl rfl rfl rfl rfl (by kernel_rfl) Try.func4 (by kernel_rfl)
    (of_decide_eq_true (by kernel_rfl)) (by unfold Func.isWrapper; first | (rw [if_pos (by decide +kernel)]; kernel_rfl) | (rw [if_neg (by decide +kernel)]; exact ⟨rfl, rfl⟩))
    (fun os started H enc _ => lifted os started H enc)

/-- ████ THE STATEMENT ████ -/
theorem proved : Rows.FnIsUUIDAcceptsEveryFormattedUUIDSaid := over
#print axioms proved
end Go.Proofs.Qxb6604160a.fnIsUUIDAcceptsEveryFormattedUUID
