/-
  No cell of these rows narrows 'for every input' (looked for: loops, veiled, ifaces, maps, wideKeys, modest, calm, conditions, laid).
  DERIVED. THE GIVEN ROWS OF THIS SEAT. 6 by the template 'for every input the law returns true; each argument reads behind the call as it read before'; 0 by the template 'total and deterministic' (their statements: Qxb6603819aTotals.lean).
  GIVEN WITH THE SEED: the statements are not yours to turn. If you find one false, say at which input.
  Laid BY PROGRAM, IN A SANDBOX (cutbox-rows.mjs): the forced cells as the released guide's own fill.sh prints them over the translation 3b2c6b560f78d06a… (all of the seat's roots in one cut). By AI agents, Wed Nov 11 2026. No macro, syntax, notation, axiom, sorry.
-/
import Derived.Test.Qxb6603819aChecked
import GoSem.Claim
import GoSem.ClaimJoined
import GoSem.ClaimMapViews
import Derived.JoinedTies
import Derived.KernelRfl
namespace Go.Proofs.Qxb6603819a
/- THE CELL 'sum', in the pinned program and in every row, IS THE sha256 OF THE DUMP (.gsa) THAT Qxb6603819aProg.lean LOADS. Nothing in Lean hashes anything: it is a label: what it is worth is what the hold of that sum in a sandbox is worth. -/
noncomputable def Try.pinned : Pinned := { name := "qxb6603819a", sum := "3b2c6b560f78d06a4f94694e6df64e03db37a9e95bf86afdbe528b73865e04f5", checked := Try.checked }
namespace Rows
def none {H : Type} : Left H := { results := [], args := [] }

/-- 'zzlaws_resp_b1.FnParseIntAcceptsExactlyCanonical': WHATEVER THE INPUT: true; the input reads as it did. -/
def fnParseIntAcceptsExactlyCanonicalSpec : ChangeSpec := { name := "fnParseIntAcceptsExactlyCanonical", fn := fun _ => fun
  | [d] => { results := [.lit (.bool true)], args := [d] }
  | _ => none }
def fnParseIntAcceptsExactlyCanonicalRow : OpenClaim := { program := "qxb6603819a", sum := "3b2c6b560f78d06a4f94694e6df64e03db37a9e95bf86afdbe528b73865e04f5", func := "example.com/respite/respite/zzlaws_resp_b1.FnParseIntAcceptsExactlyCanonical", spec := "fnParseIntAcceptsExactlyCanonical", apart := false }
def FnParseIntAcceptsExactlyCanonicalSaid : Prop := fnParseIntAcceptsExactlyCanonicalRow.holds Try.pinned (OpenSpec.ofChange fnParseIntAcceptsExactlyCanonicalSpec)

/-- ITS FALSE NEIGHBOUR: 'it returns false'. Refute it at one input. -/
def fnParseIntAcceptsExactlyCanonicalWrong : ChangeSpec := { name := "fnParseIntAcceptsExactlyCanonical", fn := fun _ => fun
  | [d] => { results := [.lit (.bool false)], args := [d] }
  | _ => none }
def FnParseIntAcceptsExactlyCanonicalWrongFalsely : Prop := fnParseIntAcceptsExactlyCanonicalRow.holds Try.pinned (OpenSpec.ofChange fnParseIntAcceptsExactlyCanonicalWrong)

/-- 'zzlaws_resp_b1.FnParseIntReadsFormatBack': WHATEVER THE INPUT: true; the input reads as it did. -/
def fnParseIntReadsFormatBackSpec : ChangeSpec := { name := "fnParseIntReadsFormatBack", fn := fun _ => fun
  | [d] => { results := [.lit (.bool true)], args := [d] }
  | _ => none }
def fnParseIntReadsFormatBackRow : OpenClaim := { program := "qxb6603819a", sum := "3b2c6b560f78d06a4f94694e6df64e03db37a9e95bf86afdbe528b73865e04f5", func := "example.com/respite/respite/zzlaws_resp_b1.FnParseIntReadsFormatBack", spec := "fnParseIntReadsFormatBack", apart := false }
def FnParseIntReadsFormatBackSaid : Prop := fnParseIntReadsFormatBackRow.holds Try.pinned (OpenSpec.ofChange fnParseIntReadsFormatBackSpec)

/-- ITS FALSE NEIGHBOUR: 'it returns false'. Refute it at one input. -/
def fnParseIntReadsFormatBackWrong : ChangeSpec := { name := "fnParseIntReadsFormatBack", fn := fun _ => fun
  | [d] => { results := [.lit (.bool false)], args := [d] }
  | _ => none }
def FnParseIntReadsFormatBackWrongFalsely : Prop := fnParseIntReadsFormatBackRow.holds Try.pinned (OpenSpec.ofChange fnParseIntReadsFormatBackWrong)

/-- 'zzlaws_resp_b1.FnSplitArgsMatchesStateMachine': WHATEVER THE INPUT: true; the input reads as it did. -/
def fnSplitArgsMatchesStateMachineSpec : ChangeSpec := { name := "fnSplitArgsMatchesStateMachine", fn := fun _ => fun
  | [d] => { results := [.lit (.bool true)], args := [d] }
  | _ => none }
def fnSplitArgsMatchesStateMachineRow : OpenClaim := { program := "qxb6603819a", sum := "3b2c6b560f78d06a4f94694e6df64e03db37a9e95bf86afdbe528b73865e04f5", func := "example.com/respite/respite/zzlaws_resp_b1.FnSplitArgsMatchesStateMachine", spec := "fnSplitArgsMatchesStateMachine", apart := false }
def FnSplitArgsMatchesStateMachineSaid : Prop := fnSplitArgsMatchesStateMachineRow.holds Try.pinned (OpenSpec.ofChange fnSplitArgsMatchesStateMachineSpec)

/-- ITS FALSE NEIGHBOUR: 'it returns false'. Refute it at one input. -/
def fnSplitArgsMatchesStateMachineWrong : ChangeSpec := { name := "fnSplitArgsMatchesStateMachine", fn := fun _ => fun
  | [d] => { results := [.lit (.bool false)], args := [d] }
  | _ => none }
def FnSplitArgsMatchesStateMachineWrongFalsely : Prop := fnSplitArgsMatchesStateMachineRow.holds Try.pinned (OpenSpec.ofChange fnSplitArgsMatchesStateMachineWrong)

/-- 'zzlaws_resp_b1.FnSplitArgsInvertsQuotedJoin': WHATEVER THE INPUT: true; the input reads as it did. -/
def fnSplitArgsInvertsQuotedJoinSpec : ChangeSpec := { name := "fnSplitArgsInvertsQuotedJoin", fn := fun _ => fun
  | [d] => { results := [.lit (.bool true)], args := [d] }
  | _ => none }
def fnSplitArgsInvertsQuotedJoinRow : OpenClaim := { program := "qxb6603819a", sum := "3b2c6b560f78d06a4f94694e6df64e03db37a9e95bf86afdbe528b73865e04f5", func := "example.com/respite/respite/zzlaws_resp_b1.FnSplitArgsInvertsQuotedJoin", spec := "fnSplitArgsInvertsQuotedJoin", apart := false }
def FnSplitArgsInvertsQuotedJoinSaid : Prop := fnSplitArgsInvertsQuotedJoinRow.holds Try.pinned (OpenSpec.ofChange fnSplitArgsInvertsQuotedJoinSpec)

/-- ITS FALSE NEIGHBOUR: 'it returns false'. Refute it at one input. -/
def fnSplitArgsInvertsQuotedJoinWrong : ChangeSpec := { name := "fnSplitArgsInvertsQuotedJoin", fn := fun _ => fun
  | [d] => { results := [.lit (.bool false)], args := [d] }
  | _ => none }
def FnSplitArgsInvertsQuotedJoinWrongFalsely : Prop := fnSplitArgsInvertsQuotedJoinRow.holds Try.pinned (OpenSpec.ofChange fnSplitArgsInvertsQuotedJoinWrong)

/-- 'zzlaws_resp_b1.FnAppendDoubleQuotedMatchesStateMachine': WHATEVER THE INPUT: true; the input reads as it did. -/
def fnAppendDoubleQuotedMatchesStateMachineSpec : ChangeSpec := { name := "fnAppendDoubleQuotedMatchesStateMachine", fn := fun _ => fun
  | [d1, d2] => { results := [.lit (.bool true)], args := [d1, d2] }
  | _ => none }
def fnAppendDoubleQuotedMatchesStateMachineRow : OpenClaim := { program := "qxb6603819a", sum := "3b2c6b560f78d06a4f94694e6df64e03db37a9e95bf86afdbe528b73865e04f5", func := "example.com/respite/respite/zzlaws_resp_b1.FnAppendDoubleQuotedMatchesStateMachine", spec := "fnAppendDoubleQuotedMatchesStateMachine", apart := false }
def FnAppendDoubleQuotedMatchesStateMachineSaid : Prop := fnAppendDoubleQuotedMatchesStateMachineRow.holds Try.pinned (OpenSpec.ofChange fnAppendDoubleQuotedMatchesStateMachineSpec)

/-- ITS FALSE NEIGHBOUR: 'it returns false'. Refute it at one input. -/
def fnAppendDoubleQuotedMatchesStateMachineWrong : ChangeSpec := { name := "fnAppendDoubleQuotedMatchesStateMachine", fn := fun _ => fun
  | [d1, d2] => { results := [.lit (.bool false)], args := [d1, d2] }
  | _ => none }
def FnAppendDoubleQuotedMatchesStateMachineWrongFalsely : Prop := fnAppendDoubleQuotedMatchesStateMachineRow.holds Try.pinned (OpenSpec.ofChange fnAppendDoubleQuotedMatchesStateMachineWrong)

/-- 'zzlaws_resp_b1.FnAppendDoubleQuotedInvertsQuote': WHATEVER THE INPUT: true; the input reads as it did. -/
def fnAppendDoubleQuotedInvertsQuoteSpec : ChangeSpec := { name := "fnAppendDoubleQuotedInvertsQuote", fn := fun _ => fun
  | [d1, d2, d3] => { results := [.lit (.bool true)], args := [d1, d2, d3] }
  | _ => none }
def fnAppendDoubleQuotedInvertsQuoteRow : OpenClaim := { program := "qxb6603819a", sum := "3b2c6b560f78d06a4f94694e6df64e03db37a9e95bf86afdbe528b73865e04f5", func := "example.com/respite/respite/zzlaws_resp_b1.FnAppendDoubleQuotedInvertsQuote", spec := "fnAppendDoubleQuotedInvertsQuote", apart := false }
def FnAppendDoubleQuotedInvertsQuoteSaid : Prop := fnAppendDoubleQuotedInvertsQuoteRow.holds Try.pinned (OpenSpec.ofChange fnAppendDoubleQuotedInvertsQuoteSpec)

/-- ITS FALSE NEIGHBOUR: 'it returns false'. Refute it at one input. -/
def fnAppendDoubleQuotedInvertsQuoteWrong : ChangeSpec := { name := "fnAppendDoubleQuotedInvertsQuote", fn := fun _ => fun
  | [d1, d2, d3] => { results := [.lit (.bool false)], args := [d1, d2, d3] }
  | _ => none }
def FnAppendDoubleQuotedInvertsQuoteWrongFalsely : Prop := fnAppendDoubleQuotedInvertsQuoteRow.holds Try.pinned (OpenSpec.ofChange fnAppendDoubleQuotedInvertsQuoteWrong)

end Rows
end Go.Proofs.Qxb6603819a
