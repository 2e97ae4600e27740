/-
  No cell of these rows narrows 'for every input' (looked for: loops, veiled, ifaces, maps, wideKeys, modest, calm, conditions, laid).
  DERIVED. THE GIVEN ROWS OF THIS SEAT. 2 by the template 'for every input the law returns true; each argument reads behind the call as it read before'; 0 by the template 'total and deterministic' (their statements: Qxb6618333aTotals.lean).
  GIVEN WITH THE SEED: the statements are not yours to turn. If you find one false, say at which input.
  Laid BY PROGRAM, IN A SANDBOX (cutbox-rows.mjs): the forced cells as the released guide's own fill.sh prints them over the translation 98a0047b6388c6a2… (all of the seat's roots in one cut). By AI agents, Wed Nov 11 2026. No macro, syntax, notation, axiom, sorry.
-/
import Derived.Test.Qxb6618333aChecked
import GoSem.Claim
import GoSem.ClaimJoined
import GoSem.ClaimMapViews
import Derived.JoinedTies
import Derived.KernelRfl
namespace Go.Proofs.Qxb6618333a
/- THE CELL 'sum', in the pinned program and in every row, IS THE sha256 OF THE DUMP (.gsa) THAT Qxb6618333aProg.lean LOADS. Nothing in Lean hashes anything: it is a label: what it is worth is what the hold of that sum in a sandbox is worth. -/
noncomputable def Try.pinned : Pinned := { name := "qxb6618333a", sum := "98a0047b6388c6a2a72f991c0112b380d0a8625547ffe348211b7af4021eeb08", checked := Try.checked }
namespace Rows
def none {H : Type} : Left H := { results := [], args := [] }

/-- 'zzlaws_internal_lex_b1.FnSourceSeamlessPieceChangesNothing': WHATEVER THE INPUT: true; the input reads as it did. -/
def fnSourceSeamlessPieceChangesNothingSpec : ChangeSpec := { name := "fnSourceSeamlessPieceChangesNothing", fn := fun _ => fun
  | [d1, d2, d3, d4, d5] => { results := [.lit (.bool true)], args := [d1, d2, d3, d4, d5] }
  | _ => none }
def fnSourceSeamlessPieceChangesNothingRow : OpenClaim := { program := "qxb6618333a", sum := "98a0047b6388c6a2a72f991c0112b380d0a8625547ffe348211b7af4021eeb08", func := "example.com/bare-stanza/bare-stanza/zzlaws_internal_lex_b1.FnSourceSeamlessPieceChangesNothing", spec := "fnSourceSeamlessPieceChangesNothing", apart := false }
def FnSourceSeamlessPieceChangesNothingSaid : Prop := fnSourceSeamlessPieceChangesNothingRow.holds Try.pinned (OpenSpec.ofChange fnSourceSeamlessPieceChangesNothingSpec)

/-- ITS FALSE NEIGHBOUR: 'it returns false'. Refute it at one input. -/
def fnSourceSeamlessPieceChangesNothingWrong : ChangeSpec := { name := "fnSourceSeamlessPieceChangesNothing", fn := fun _ => fun
  | [d1, d2, d3, d4, d5] => { results := [.lit (.bool false)], args := [d1, d2, d3, d4, d5] }
  | _ => none }
def FnSourceSeamlessPieceChangesNothingWrongFalsely : Prop := fnSourceSeamlessPieceChangesNothingRow.holds Try.pinned (OpenSpec.ofChange fnSourceSeamlessPieceChangesNothingWrong)

/-- 'zzlaws_internal_lex_b1.FnSourceShiftsWithItsPieces': WHATEVER THE INPUT: true; the input reads as it did. -/
def fnSourceShiftsWithItsPiecesSpec : ChangeSpec := { name := "fnSourceShiftsWithItsPieces", fn := fun _ => fun
  | [d1, d2, d3, d4, d5, d6] => { results := [.lit (.bool true)], args := [d1, d2, d3, d4, d5, d6] }
  | _ => none }
def fnSourceShiftsWithItsPiecesRow : OpenClaim := { program := "qxb6618333a", sum := "98a0047b6388c6a2a72f991c0112b380d0a8625547ffe348211b7af4021eeb08", func := "example.com/bare-stanza/bare-stanza/zzlaws_internal_lex_b1.FnSourceShiftsWithItsPieces", spec := "fnSourceShiftsWithItsPieces", apart := false }
def FnSourceShiftsWithItsPiecesSaid : Prop := fnSourceShiftsWithItsPiecesRow.holds Try.pinned (OpenSpec.ofChange fnSourceShiftsWithItsPiecesSpec)

/-- ITS FALSE NEIGHBOUR: 'it returns false'. Refute it at one input. -/
def fnSourceShiftsWithItsPiecesWrong : ChangeSpec := { name := "fnSourceShiftsWithItsPieces", fn := fun _ => fun
  | [d1, d2, d3, d4, d5, d6] => { results := [.lit (.bool false)], args := [d1, d2, d3, d4, d5, d6] }
  | _ => none }
def FnSourceShiftsWithItsPiecesWrongFalsely : Prop := fnSourceShiftsWithItsPiecesRow.holds Try.pinned (OpenSpec.ofChange fnSourceShiftsWithItsPiecesWrong)

end Rows
end Go.Proofs.Qxb6618333a
