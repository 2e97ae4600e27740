/-
  No cell of these rows narrows 'for every input' (looked for: loops, veiled, ifaces, maps, wideKeys, modest, calm, conditions, laid).
  DERIVED. THE GIVEN ROWS OF THIS SEAT. 1 by the template 'for every input the law returns true; each argument reads behind the call as it read before'; 0 by the template 'total and deterministic' (their statements: Qxb6618430aTotals.lean).
  GIVEN WITH THE SEED: the statements are not yours to turn. If you find one false, say at which input.
  Laid BY PROGRAM, IN A SANDBOX (cutbox-rows.mjs): the forced cells as the released guide's own fill.sh prints them over the translation 3f469fa2dad81648… (all of the seat's roots in one cut). By AI agents, Wed Nov 11 2026. No macro, syntax, notation, axiom, sorry.
-/
import Derived.Test.Qxb6618430aChecked
import GoSem.Claim
import GoSem.ClaimJoined
import GoSem.ClaimMapViews
import Derived.JoinedTies
import Derived.KernelRfl
namespace Go.Proofs.Qxb6618430a
/- THE CELL 'sum', in the pinned program and in every row, IS THE sha256 OF THE DUMP (.gsa) THAT Qxb6618430aProg.lean LOADS. Nothing in Lean hashes anything: it is a label: what it is worth is what the hold of that sum in a sandbox is worth. -/
noncomputable def Try.pinned : Pinned := { name := "qxb6618430a", sum := "3f469fa2dad816487108b8dc2d95ad088ff65bf8bb9498477e22fa456c6cb0d8", checked := Try.checked }
namespace Rows
def none {H : Type} : Left H := { results := [], args := [] }

/-- 'zzlaws_pkg_nftables_b1.FnGroupedIsThePartitionOfElementsByGroup': WHATEVER THE INPUT: true; the input reads as it did. -/
def fnGroupedIsThePartitionOfElementsByGroupSpec : ChangeSpec := { name := "fnGroupedIsThePartitionOfElementsByGroup", fn := fun _ => fun
  | [d1, d2, d3, d4, d5, d6] => { results := [.lit (.bool true)], args := [d1, d2, d3, d4, d5, d6] }
  | _ => none }
def fnGroupedIsThePartitionOfElementsByGroupRow : OpenClaim := { program := "qxb6618430a", sum := "3f469fa2dad816487108b8dc2d95ad088ff65bf8bb9498477e22fa456c6cb0d8", func := "example.com/searsville/searsville/zzlaws_pkg_nftables_b1.FnGroupedIsThePartitionOfElementsByGroup", spec := "fnGroupedIsThePartitionOfElementsByGroup", apart := false }
def FnGroupedIsThePartitionOfElementsByGroupSaid : Prop := fnGroupedIsThePartitionOfElementsByGroupRow.holds Try.pinned (OpenSpec.ofChange fnGroupedIsThePartitionOfElementsByGroupSpec)

/-- ITS FALSE NEIGHBOUR: 'it returns false'. Refute it at one input. -/
def fnGroupedIsThePartitionOfElementsByGroupWrong : ChangeSpec := { name := "fnGroupedIsThePartitionOfElementsByGroup", fn := fun _ => fun
  | [d1, d2, d3, d4, d5, d6] => { results := [.lit (.bool false)], args := [d1, d2, d3, d4, d5, d6] }
  | _ => none }
def FnGroupedIsThePartitionOfElementsByGroupWrongFalsely : Prop := fnGroupedIsThePartitionOfElementsByGroupRow.holds Try.pinned (OpenSpec.ofChange fnGroupedIsThePartitionOfElementsByGroupWrong)

end Rows
end Go.Proofs.Qxb6618430a
