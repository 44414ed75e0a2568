/-
  No cell of these rows narrows 'for every input' (looked for: loops, veiled, ifaces, maps, wideKeys, modest, calm, conditions, laid).
  DERIVED. THE GIVEN ROWS OF THIS SEAT. 2 by the template 'for every input the law returns true; each argument reads behind the call as it read before'; 0 by the template 'total and deterministic' (their statements: Qxb6630276aTotals.lean).
  GIVEN WITH THE SEED: the statements are not yours to turn. If you find one false, say at which input.
  Laid BY PROGRAM, IN A SANDBOX (cutbox-rows.mjs): the forced cells as the released guide's own fill.sh prints them over the translation 0dbe3cf6bb8dbf17… (all of the seat's roots in one cut). By AI agents, Wed Nov 11 2026. No macro, syntax, notation, axiom, sorry.
-/
import Derived.Test.Qxb6630276aChecked
import GoSem.Claim
import GoSem.ClaimJoined
import GoSem.ClaimMapViews
import Derived.JoinedTies
import Derived.KernelRfl
namespace Go.Proofs.Qxb6630276a
/- THE CELL 'sum', in the pinned program and in every row, IS THE sha256 OF THE DUMP (.gsa) THAT Qxb6630276aProg.lean LOADS. Nothing in Lean hashes anything: it is a label: what it is worth is what the hold of that sum in a sandbox is worth. -/
noncomputable def Try.pinned : Pinned := { name := "qxb6630276a", sum := "0dbe3cf6bb8dbf171e97d0532e7dbc87a63fdeaadaf2ded63bbe8475ebc3906e", checked := Try.checked }
namespace Rows
def none {H : Type} : Left H := { results := [], args := [] }

/-- 'zzlaws_internal_keyspace_b1.FnAfterHoldsExactlyPositionsAfter': WHATEVER THE INPUT: true; the input reads as it did. -/
def fnAfterHoldsExactlyPositionsAfterSpec : ChangeSpec := { name := "fnAfterHoldsExactlyPositionsAfter", fn := fun _ => fun
  | [d1, d2, d3] => { results := [.lit (.bool true)], args := [d1, d2, d3] }
  | _ => none }
def fnAfterHoldsExactlyPositionsAfterRow : OpenClaim := { program := "qxb6630276a", sum := "0dbe3cf6bb8dbf171e97d0532e7dbc87a63fdeaadaf2ded63bbe8475ebc3906e", func := "example.com/keysweep/keysweep/zzlaws_internal_keyspace_b1.FnAfterHoldsExactlyPositionsAfter", spec := "fnAfterHoldsExactlyPositionsAfter", apart := false }
def FnAfterHoldsExactlyPositionsAfterSaid : Prop := fnAfterHoldsExactlyPositionsAfterRow.holds Try.pinned (OpenSpec.ofChange fnAfterHoldsExactlyPositionsAfterSpec)

/-- ITS FALSE NEIGHBOUR: 'it returns false'. Refute it at one input. -/
def fnAfterHoldsExactlyPositionsAfterWrong : ChangeSpec := { name := "fnAfterHoldsExactlyPositionsAfter", fn := fun _ => fun
  | [d1, d2, d3] => { results := [.lit (.bool false)], args := [d1, d2, d3] }
  | _ => none }
def FnAfterHoldsExactlyPositionsAfterWrongFalsely : Prop := fnAfterHoldsExactlyPositionsAfterRow.holds Try.pinned (OpenSpec.ofChange fnAfterHoldsExactlyPositionsAfterWrong)

/-- 'zzlaws_internal_keyspace_b1.FnAfterOfCutPrefixIsItsTail': WHATEVER THE INPUT: true; the input reads as it did. -/
def fnAfterOfCutPrefixIsItsTailSpec : ChangeSpec := { name := "fnAfterOfCutPrefixIsItsTail", fn := fun _ => fun
  | [d1, d2, d3] => { results := [.lit (.bool true)], args := [d1, d2, d3] }
  | _ => none }
def fnAfterOfCutPrefixIsItsTailRow : OpenClaim := { program := "qxb6630276a", sum := "0dbe3cf6bb8dbf171e97d0532e7dbc87a63fdeaadaf2ded63bbe8475ebc3906e", func := "example.com/keysweep/keysweep/zzlaws_internal_keyspace_b1.FnAfterOfCutPrefixIsItsTail", spec := "fnAfterOfCutPrefixIsItsTail", apart := false }
def FnAfterOfCutPrefixIsItsTailSaid : Prop := fnAfterOfCutPrefixIsItsTailRow.holds Try.pinned (OpenSpec.ofChange fnAfterOfCutPrefixIsItsTailSpec)

/-- ITS FALSE NEIGHBOUR: 'it returns false'. Refute it at one input. -/
def fnAfterOfCutPrefixIsItsTailWrong : ChangeSpec := { name := "fnAfterOfCutPrefixIsItsTail", fn := fun _ => fun
  | [d1, d2, d3] => { results := [.lit (.bool false)], args := [d1, d2, d3] }
  | _ => none }
def FnAfterOfCutPrefixIsItsTailWrongFalsely : Prop := fnAfterOfCutPrefixIsItsTailRow.holds Try.pinned (OpenSpec.ofChange fnAfterOfCutPrefixIsItsTailWrong)

end Rows
end Go.Proofs.Qxb6630276a
