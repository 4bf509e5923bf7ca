/-
  No cell of these rows narrows 'for every input' (looked for: loops, veiled, ifaces, maps, wideKeys, modest, calm, conditions, laid).
  DERIVED. THE GIVEN ROWS OF THIS SEAT. 3 by the template 'for every input the law returns true; each argument reads behind the call as it read before'; 0 by the template 'total and deterministic' (their statements: Qxb6604160aTotals.lean).
  GIVEN WITH THE SEED: the statements are not yours to turn. If you find one false, say at which input.
  Laid BY PROGRAM, IN A SANDBOX (cutbox-rows.mjs): the forced cells as the released guide's own fill.sh prints them over the translation 3891ef2f17e518b2… (all of the seat's roots in one cut). By AI agents, Wed Nov 11 2026. No macro, syntax, notation, axiom, sorry.
-/
import Derived.Test.Qxb6604160aChecked
import GoSem.Claim
import GoSem.ClaimJoined
import GoSem.ClaimMapViews
import Derived.JoinedTies
import Derived.KernelRfl
namespace Go.Proofs.Qxb6604160a
/- THE CELL 'sum', in the pinned program and in every row, IS THE sha256 OF THE DUMP (.gsa) THAT Qxb6604160aProg.lean LOADS. Nothing in Lean hashes anything: it is a label: what it is worth is what the hold of that sum in a sandbox is worth. -/
noncomputable def Try.pinned : Pinned := { name := "qxb6604160a", sum := "3891ef2f17e518b2856957ee17782342b07ea0b6160a3978299f09c2be09d15d", checked := Try.checked }
namespace Rows
def none {H : Type} : Left H := { results := [], args := [] }

/-- 'zzlaws_store_b1.FnIsUUIDMatchesGroupModel': WHATEVER THE INPUT: true; the input reads as it did. -/
def fnIsUUIDMatchesGroupModelSpec : ChangeSpec := { name := "fnIsUUIDMatchesGroupModel", fn := fun _ => fun
  | [d] => { results := [.lit (.bool true)], args := [d] }
  | _ => none }
def fnIsUUIDMatchesGroupModelRow : OpenClaim := { program := "qxb6604160a", sum := "3891ef2f17e518b2856957ee17782342b07ea0b6160a3978299f09c2be09d15d", func := "example.com/branchkey/branchkey/zzlaws_store_b1.FnIsUUIDMatchesGroupModel", spec := "fnIsUUIDMatchesGroupModel", apart := false }
def FnIsUUIDMatchesGroupModelSaid : Prop := fnIsUUIDMatchesGroupModelRow.holds Try.pinned (OpenSpec.ofChange fnIsUUIDMatchesGroupModelSpec)

/-- ITS FALSE NEIGHBOUR: 'it returns false'. Refute it at one input. -/
def fnIsUUIDMatchesGroupModelWrong : ChangeSpec := { name := "fnIsUUIDMatchesGroupModel", fn := fun _ => fun
  | [d] => { results := [.lit (.bool false)], args := [d] }
  | _ => none }
def FnIsUUIDMatchesGroupModelWrongFalsely : Prop := fnIsUUIDMatchesGroupModelRow.holds Try.pinned (OpenSpec.ofChange fnIsUUIDMatchesGroupModelWrong)

/-- 'zzlaws_store_b1.FnIsUUIDAcceptsEveryFormattedUUID': WHATEVER THE INPUT: true; the input reads as it did. -/
def fnIsUUIDAcceptsEveryFormattedUUIDSpec : ChangeSpec := { name := "fnIsUUIDAcceptsEveryFormattedUUID", fn := fun _ => fun
  | [d1, d2] => { results := [.lit (.bool true)], args := [d1, d2] }
  | _ => none }
def fnIsUUIDAcceptsEveryFormattedUUIDRow : OpenClaim := { program := "qxb6604160a", sum := "3891ef2f17e518b2856957ee17782342b07ea0b6160a3978299f09c2be09d15d", func := "example.com/branchkey/branchkey/zzlaws_store_b1.FnIsUUIDAcceptsEveryFormattedUUID", spec := "fnIsUUIDAcceptsEveryFormattedUUID", apart := false }
def FnIsUUIDAcceptsEveryFormattedUUIDSaid : Prop := fnIsUUIDAcceptsEveryFormattedUUIDRow.holds Try.pinned (OpenSpec.ofChange fnIsUUIDAcceptsEveryFormattedUUIDSpec)

/-- ITS FALSE NEIGHBOUR: 'it returns false'. Refute it at one input. -/
def fnIsUUIDAcceptsEveryFormattedUUIDWrong : ChangeSpec := { name := "fnIsUUIDAcceptsEveryFormattedUUID", fn := fun _ => fun
  | [d1, d2] => { results := [.lit (.bool false)], args := [d1, d2] }
  | _ => none }
def FnIsUUIDAcceptsEveryFormattedUUIDWrongFalsely : Prop := fnIsUUIDAcceptsEveryFormattedUUIDRow.holds Try.pinned (OpenSpec.ofChange fnIsUUIDAcceptsEveryFormattedUUIDWrong)

/-- 'zzlaws_store_b1.FnNonNilExact': WHATEVER THE INPUT: true; the input reads as it did. -/
def fnNonNilExactSpec : ChangeSpec := { name := "fnNonNilExact", fn := fun _ => fun
  | [d] => { results := [.lit (.bool true)], args := [d] }
  | _ => none }
def fnNonNilExactRow : OpenClaim := { program := "qxb6604160a", sum := "3891ef2f17e518b2856957ee17782342b07ea0b6160a3978299f09c2be09d15d", func := "example.com/branchkey/branchkey/zzlaws_store_b1.FnNonNilExact", spec := "fnNonNilExact", apart := false }
def FnNonNilExactSaid : Prop := fnNonNilExactRow.holds Try.pinned (OpenSpec.ofChange fnNonNilExactSpec)

/-- ITS FALSE NEIGHBOUR: 'it returns false'. Refute it at one input. -/
def fnNonNilExactWrong : ChangeSpec := { name := "fnNonNilExact", fn := fun _ => fun
  | [d] => { results := [.lit (.bool false)], args := [d] }
  | _ => none }
def FnNonNilExactWrongFalsely : Prop := fnNonNilExactRow.holds Try.pinned (OpenSpec.ofChange fnNonNilExactWrong)

end Rows
end Go.Proofs.Qxb6604160a
