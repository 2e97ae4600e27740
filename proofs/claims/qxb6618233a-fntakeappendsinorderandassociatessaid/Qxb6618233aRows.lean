/-
  No cell of these rows narrows 'for every input' (looked for: loops, veiled, ifaces, maps, wideKeys, modest, calm, conditions, laid).
  DERIVED. THE GIVEN ROWS OF THIS SEAT. 3 by the template 'for every input the law returns true; each argument reads behind the call as it read before'; 0 by the template 'total and deterministic' (their statements: Qxb6618233aTotals.lean).
  GIVEN WITH THE SEED: the statements are not yours to turn. If you find one false, say at which input.
  Laid BY PROGRAM, IN A SANDBOX (cutbox-rows.mjs): the forced cells as the released guide's own fill.sh prints them over the translation 4898181642557227… (all of the seat's roots in one cut). By AI agents, Wed Nov 11 2026. No macro, syntax, notation, axiom, sorry.
-/
import Derived.Test.Qxb6618233aChecked
import GoSem.Claim
import GoSem.ClaimJoined
import GoSem.ClaimMapViews
import Derived.JoinedTies
import Derived.KernelRfl
namespace Go.Proofs.Qxb6618233a
/- THE CELL 'sum', in the pinned program and in every row, IS THE sha256 OF THE DUMP (.gsa) THAT Qxb6618233aProg.lean LOADS. Nothing in Lean hashes anything: it is a label: what it is worth is what the hold of that sum in a sandbox is worth. -/
noncomputable def Try.pinned : Pinned := { name := "qxb6618233a", sum := "48981816425572275a623f74b4e55e521e7aafc72fed3446b057ed7d091af102", checked := Try.checked }
namespace Rows
def none {H : Type} : Left H := { results := [], args := [] }

/-- 'zzlaws_root_b1.FnOutweighsSplitHasExactlyOneSurvivor': WHATEVER THE INPUT: true; the input reads as it did. -/
def fnOutweighsSplitHasExactlyOneSurvivorSpec : ChangeSpec := { name := "fnOutweighsSplitHasExactlyOneSurvivor", fn := fun _ => fun
  | [d] => { results := [.lit (.bool true)], args := [d] }
  | _ => none }
def fnOutweighsSplitHasExactlyOneSurvivorRow : OpenClaim := { program := "qxb6618233a", sum := "48981816425572275a623f74b4e55e521e7aafc72fed3446b057ed7d091af102", func := "example.com/antecede/antecede/zzlaws_root_b1.FnOutweighsSplitHasExactlyOneSurvivor", spec := "fnOutweighsSplitHasExactlyOneSurvivor", unfollowed := true, recurses := true, apart := false }
def FnOutweighsSplitHasExactlyOneSurvivorSaid : Prop := fnOutweighsSplitHasExactlyOneSurvivorRow.holds Try.pinned (OpenSpec.ofChange fnOutweighsSplitHasExactlyOneSurvivorSpec)

/-- ITS FALSE NEIGHBOUR: 'it returns false'. Refute it at one input. -/
def fnOutweighsSplitHasExactlyOneSurvivorWrong : ChangeSpec := { name := "fnOutweighsSplitHasExactlyOneSurvivor", fn := fun _ => fun
  | [d] => { results := [.lit (.bool false)], args := [d] }
  | _ => none }
def FnOutweighsSplitHasExactlyOneSurvivorWrongFalsely : Prop := fnOutweighsSplitHasExactlyOneSurvivorRow.holds Try.pinned (OpenSpec.ofChange fnOutweighsSplitHasExactlyOneSurvivorWrong)

/-- 'zzlaws_root_b1.FnOutweighsAddingAMemberHelps': WHATEVER THE INPUT: true; the input reads as it did. -/
def fnOutweighsAddingAMemberHelpsSpec : ChangeSpec := { name := "fnOutweighsAddingAMemberHelps", fn := fun _ => fun
  | [d1, d2, d3] => { results := [.lit (.bool true)], args := [d1, d2, d3] }
  | _ => none }
def fnOutweighsAddingAMemberHelpsRow : OpenClaim := { program := "qxb6618233a", sum := "48981816425572275a623f74b4e55e521e7aafc72fed3446b057ed7d091af102", func := "example.com/antecede/antecede/zzlaws_root_b1.FnOutweighsAddingAMemberHelps", spec := "fnOutweighsAddingAMemberHelps", unfollowed := true, recurses := true, apart := false }
def FnOutweighsAddingAMemberHelpsSaid : Prop := fnOutweighsAddingAMemberHelpsRow.holds Try.pinned (OpenSpec.ofChange fnOutweighsAddingAMemberHelpsSpec)

/-- ITS FALSE NEIGHBOUR: 'it returns false'. Refute it at one input. -/
def fnOutweighsAddingAMemberHelpsWrong : ChangeSpec := { name := "fnOutweighsAddingAMemberHelps", fn := fun _ => fun
  | [d1, d2, d3] => { results := [.lit (.bool false)], args := [d1, d2, d3] }
  | _ => none }
def FnOutweighsAddingAMemberHelpsWrongFalsely : Prop := fnOutweighsAddingAMemberHelpsRow.holds Try.pinned (OpenSpec.ofChange fnOutweighsAddingAMemberHelpsWrong)

/-- 'zzlaws_root_b1.FnTakeAppendsInOrderAndAssociates': WHATEVER THE INPUT: true; the input reads as it did. -/
def fnTakeAppendsInOrderAndAssociatesSpec : ChangeSpec := { name := "fnTakeAppendsInOrderAndAssociates", fn := fun _ => fun
  | [d1, d2, d3] => { results := [.lit (.bool true)], args := [d1, d2, d3] }
  | _ => none }
def fnTakeAppendsInOrderAndAssociatesRow : OpenClaim := { program := "qxb6618233a", sum := "48981816425572275a623f74b4e55e521e7aafc72fed3446b057ed7d091af102", func := "example.com/antecede/antecede/zzlaws_root_b1.FnTakeAppendsInOrderAndAssociates", spec := "fnTakeAppendsInOrderAndAssociates", apart := false }
def FnTakeAppendsInOrderAndAssociatesSaid : Prop := fnTakeAppendsInOrderAndAssociatesRow.holds Try.pinned (OpenSpec.ofChange fnTakeAppendsInOrderAndAssociatesSpec)

/-- ITS FALSE NEIGHBOUR: 'it returns false'. Refute it at one input. -/
def fnTakeAppendsInOrderAndAssociatesWrong : ChangeSpec := { name := "fnTakeAppendsInOrderAndAssociates", fn := fun _ => fun
  | [d1, d2, d3] => { results := [.lit (.bool false)], args := [d1, d2, d3] }
  | _ => none }
def FnTakeAppendsInOrderAndAssociatesWrongFalsely : Prop := fnTakeAppendsInOrderAndAssociatesRow.holds Try.pinned (OpenSpec.ofChange fnTakeAppendsInOrderAndAssociatesWrong)

end Rows
end Go.Proofs.Qxb6618233a
