/-
  No cell of these rows narrows 'for every input' (looked for: loops, veiled, ifaces, maps, wideKeys, modest, calm, conditions, laid).
  DERIVED. THE GIVEN ROWS OF THIS SEAT. 3 by the template 'for every input the law returns true; each argument reads behind the call as it read before'; 0 by the template 'total and deterministic' (their statements: Qxb6618116aTotals.lean).
  GIVEN WITH THE SEED: the statements are not yours to turn. If you find one false, say at which input.
  Laid BY PROGRAM, IN A SANDBOX (cutbox-rows.mjs): the forced cells as the released guide's own fill.sh prints them over the translation 17ed2daaa08adcbd… (all of the seat's roots in one cut). By AI agents, Wed Nov 11 2026. No macro, syntax, notation, axiom, sorry.
-/
import Derived.Test.Qxb6618116aChecked
import GoSem.Claim
import GoSem.ClaimJoined
import GoSem.ClaimMapViews
import Derived.JoinedTies
import Derived.KernelRfl
namespace Go.Proofs.Qxb6618116a
/- THE CELL 'sum', in the pinned program and in every row, IS THE sha256 OF THE DUMP (.gsa) THAT Qxb6618116aProg.lean LOADS. Nothing in Lean hashes anything: it is a label: what it is worth is what the hold of that sum in a sandbox is worth. -/
noncomputable def Try.pinned : Pinned := { name := "qxb6618116a", sum := "17ed2daaa08adcbd05aa0d52b1ea5d376c59ccf44acb26dd8c54eb994cd9f5c9", checked := Try.checked }
namespace Rows
def none {H : Type} : Left H := { results := [], args := [] }

/-- 'zzlaws_internal_strictjson_b1.FnSkipStringEndsPastFirstUnescapedQuote': WHATEVER THE INPUT: true; the input reads as it did. -/
def fnSkipStringEndsPastFirstUnescapedQuoteSpec : ChangeSpec := { name := "fnSkipStringEndsPastFirstUnescapedQuote", fn := fun _ => fun
  | [d1, d2, d3, d4, d5, d6] => { results := [.lit (.bool true)], args := [d1, d2, d3, d4, d5, d6] }
  | _ => none }
def fnSkipStringEndsPastFirstUnescapedQuoteRow : OpenClaim := { program := "qxb6618116a", sum := "17ed2daaa08adcbd05aa0d52b1ea5d376c59ccf44acb26dd8c54eb994cd9f5c9", func := "example.com/access-grants/access-grants/zzlaws_internal_strictjson_b1.FnSkipStringEndsPastFirstUnescapedQuote", spec := "fnSkipStringEndsPastFirstUnescapedQuote", apart := false }
def FnSkipStringEndsPastFirstUnescapedQuoteSaid : Prop := fnSkipStringEndsPastFirstUnescapedQuoteRow.holds Try.pinned (OpenSpec.ofChange fnSkipStringEndsPastFirstUnescapedQuoteSpec)

/-- ITS FALSE NEIGHBOUR: 'it returns false'. Refute it at one input. -/
def fnSkipStringEndsPastFirstUnescapedQuoteWrong : ChangeSpec := { name := "fnSkipStringEndsPastFirstUnescapedQuote", fn := fun _ => fun
  | [d1, d2, d3, d4, d5, d6] => { results := [.lit (.bool false)], args := [d1, d2, d3, d4, d5, d6] }
  | _ => none }
def FnSkipStringEndsPastFirstUnescapedQuoteWrongFalsely : Prop := fnSkipStringEndsPastFirstUnescapedQuoteRow.holds Try.pinned (OpenSpec.ofChange fnSkipStringEndsPastFirstUnescapedQuoteWrong)

/-- 'zzlaws_internal_strictjson_b1.FnSkipScalarEndsAtStopAndIsCutStable': WHATEVER THE INPUT: true; the input reads as it did. -/
def fnSkipScalarEndsAtStopAndIsCutStableSpec : ChangeSpec := { name := "fnSkipScalarEndsAtStopAndIsCutStable", fn := fun _ => fun
  | [d1, d2, d3, d4, d5, d6] => { results := [.lit (.bool true)], args := [d1, d2, d3, d4, d5, d6] }
  | _ => none }
def fnSkipScalarEndsAtStopAndIsCutStableRow : OpenClaim := { program := "qxb6618116a", sum := "17ed2daaa08adcbd05aa0d52b1ea5d376c59ccf44acb26dd8c54eb994cd9f5c9", func := "example.com/access-grants/access-grants/zzlaws_internal_strictjson_b1.FnSkipScalarEndsAtStopAndIsCutStable", spec := "fnSkipScalarEndsAtStopAndIsCutStable", apart := false }
def FnSkipScalarEndsAtStopAndIsCutStableSaid : Prop := fnSkipScalarEndsAtStopAndIsCutStableRow.holds Try.pinned (OpenSpec.ofChange fnSkipScalarEndsAtStopAndIsCutStableSpec)

/-- ITS FALSE NEIGHBOUR: 'it returns false'. Refute it at one input. -/
def fnSkipScalarEndsAtStopAndIsCutStableWrong : ChangeSpec := { name := "fnSkipScalarEndsAtStopAndIsCutStable", fn := fun _ => fun
  | [d1, d2, d3, d4, d5, d6] => { results := [.lit (.bool false)], args := [d1, d2, d3, d4, d5, d6] }
  | _ => none }
def FnSkipScalarEndsAtStopAndIsCutStableWrongFalsely : Prop := fnSkipScalarEndsAtStopAndIsCutStableRow.holds Try.pinned (OpenSpec.ofChange fnSkipScalarEndsAtStopAndIsCutStableWrong)

/-- 'zzlaws_internal_strictjson_b1.FnMoreReadsSeparatorPastSpace': WHATEVER THE INPUT: true; the input reads as it did. -/
def fnMoreReadsSeparatorPastSpaceSpec : ChangeSpec := { name := "fnMoreReadsSeparatorPastSpace", fn := fun _ => fun
  | [d1, d2, d3, d4, d5, d6, d7] => { results := [.lit (.bool true)], args := [d1, d2, d3, d4, d5, d6, d7] }
  | _ => none }
def fnMoreReadsSeparatorPastSpaceRow : OpenClaim := { program := "qxb6618116a", sum := "17ed2daaa08adcbd05aa0d52b1ea5d376c59ccf44acb26dd8c54eb994cd9f5c9", func := "example.com/access-grants/access-grants/zzlaws_internal_strictjson_b1.FnMoreReadsSeparatorPastSpace", spec := "fnMoreReadsSeparatorPastSpace", apart := false }
def FnMoreReadsSeparatorPastSpaceSaid : Prop := fnMoreReadsSeparatorPastSpaceRow.holds Try.pinned (OpenSpec.ofChange fnMoreReadsSeparatorPastSpaceSpec)

/-- ITS FALSE NEIGHBOUR: 'it returns false'. Refute it at one input. -/
def fnMoreReadsSeparatorPastSpaceWrong : ChangeSpec := { name := "fnMoreReadsSeparatorPastSpace", fn := fun _ => fun
  | [d1, d2, d3, d4, d5, d6, d7] => { results := [.lit (.bool false)], args := [d1, d2, d3, d4, d5, d6, d7] }
  | _ => none }
def FnMoreReadsSeparatorPastSpaceWrongFalsely : Prop := fnMoreReadsSeparatorPastSpaceRow.holds Try.pinned (OpenSpec.ofChange fnMoreReadsSeparatorPastSpaceWrong)

end Rows
end Go.Proofs.Qxb6618116a
