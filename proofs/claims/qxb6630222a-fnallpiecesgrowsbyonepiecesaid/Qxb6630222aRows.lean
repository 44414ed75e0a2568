/-
  No cell of these rows narrows 'for every input' (looked for: loops, veiled, ifaces, maps, wideKeys, modest, calm, conditions, laid).
  DERIVED. THE GIVEN ROWS OF THIS SEAT. 2 by the template 'for every input the law returns true; each argument reads behind the call as it read before'; 0 by the template 'total and deterministic' (their statements: Qxb6630222aTotals.lean).
  GIVEN WITH THE SEED: the statements are not yours to turn. If you find one false, say at which input.
  Laid BY PROGRAM, IN A SANDBOX (cutbox-rows.mjs): the forced cells as the released guide's own fill.sh prints them over the translation c387f26d210972db… (all of the seat's roots in one cut). By AI agents, Wed Nov 11 2026. No macro, syntax, notation, axiom, sorry.
-/
import Derived.Test.Qxb6630222aChecked
import GoSem.Claim
import GoSem.ClaimJoined
import GoSem.ClaimMapViews
import Derived.JoinedTies
import Derived.KernelRfl
namespace Go.Proofs.Qxb6630222a
/- THE CELL 'sum', in the pinned program and in every row, IS THE sha256 OF THE DUMP (.gsa) THAT Qxb6630222aProg.lean LOADS. Nothing in Lean hashes anything: it is a label: what it is worth is what the hold of that sum in a sandbox is worth. -/
noncomputable def Try.pinned : Pinned := { name := "qxb6630222a", sum := "c387f26d210972dba6c970d154a5d434a2252ecea5c3b441e3a1e43c99a4a2f5", checked := Try.checked }
namespace Rows
def none {H : Type} : Left H := { results := [], args := [] }

/-- 'zzlaws_peerwire_b1.FnAllPiecesGrowsByOnePiece': WHATEVER THE INPUT: true; the input reads as it did. -/
def fnAllPiecesGrowsByOnePieceSpec : ChangeSpec := { name := "fnAllPiecesGrowsByOnePiece", fn := fun _ => fun
  | [d] => { results := [.lit (.bool true)], args := [d] }
  | _ => none }
def fnAllPiecesGrowsByOnePieceRow : OpenClaim := { program := "qxb6630222a", sum := "c387f26d210972dba6c970d154a5d434a2252ecea5c3b441e3a1e43c99a4a2f5", func := "example.com/peerloom/peerloom/zzlaws_peerwire_b1.FnAllPiecesGrowsByOnePiece", spec := "fnAllPiecesGrowsByOnePiece", apart := false }
def FnAllPiecesGrowsByOnePieceSaid : Prop := fnAllPiecesGrowsByOnePieceRow.holds Try.pinned (OpenSpec.ofChange fnAllPiecesGrowsByOnePieceSpec)

/-- ITS FALSE NEIGHBOUR: 'it returns false'. Refute it at one input. -/
def fnAllPiecesGrowsByOnePieceWrong : ChangeSpec := { name := "fnAllPiecesGrowsByOnePiece", fn := fun _ => fun
  | [d] => { results := [.lit (.bool false)], args := [d] }
  | _ => none }
def FnAllPiecesGrowsByOnePieceWrongFalsely : Prop := fnAllPiecesGrowsByOnePieceRow.holds Try.pinned (OpenSpec.ofChange fnAllPiecesGrowsByOnePieceWrong)

/-- 'zzlaws_peerwire_b1.FnAllPiecesDifferenceIsTheRange': WHATEVER THE INPUT: true; the input reads as it did. -/
def fnAllPiecesDifferenceIsTheRangeSpec : ChangeSpec := { name := "fnAllPiecesDifferenceIsTheRange", fn := fun _ => fun
  | [d1, d2] => { results := [.lit (.bool true)], args := [d1, d2] }
  | _ => none }
def fnAllPiecesDifferenceIsTheRangeRow : OpenClaim := { program := "qxb6630222a", sum := "c387f26d210972dba6c970d154a5d434a2252ecea5c3b441e3a1e43c99a4a2f5", func := "example.com/peerloom/peerloom/zzlaws_peerwire_b1.FnAllPiecesDifferenceIsTheRange", spec := "fnAllPiecesDifferenceIsTheRange", apart := false }
def FnAllPiecesDifferenceIsTheRangeSaid : Prop := fnAllPiecesDifferenceIsTheRangeRow.holds Try.pinned (OpenSpec.ofChange fnAllPiecesDifferenceIsTheRangeSpec)

/-- ITS FALSE NEIGHBOUR: 'it returns false'. Refute it at one input. -/
def fnAllPiecesDifferenceIsTheRangeWrong : ChangeSpec := { name := "fnAllPiecesDifferenceIsTheRange", fn := fun _ => fun
  | [d1, d2] => { results := [.lit (.bool false)], args := [d1, d2] }
  | _ => none }
def FnAllPiecesDifferenceIsTheRangeWrongFalsely : Prop := fnAllPiecesDifferenceIsTheRangeRow.holds Try.pinned (OpenSpec.ofChange fnAllPiecesDifferenceIsTheRangeWrong)

end Rows
end Go.Proofs.Qxb6630222a
