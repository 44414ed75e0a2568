/-
  No cell of these rows narrows 'for every input' (looked for: loops, veiled, ifaces, maps, wideKeys, modest, calm, conditions, laid).
  DERIVED. THE GIVEN ROWS OF THIS SEAT. 2 by the template 'for every input the law returns true; each argument reads behind the call as it read before'; 0 by the template 'total and deterministic' (their statements: Qxb6630193aTotals.lean).
  GIVEN WITH THE SEED: the statements are not yours to turn. If you find one false, say at which input.
  Laid BY PROGRAM, IN A SANDBOX (cutbox-rows.mjs): the forced cells as the released guide's own fill.sh prints them over the translation e73b1558b2b0daea… (all of the seat's roots in one cut). By AI agents, Wed Nov 11 2026. No macro, syntax, notation, axiom, sorry.
-/
import Derived.Test.Qxb6630193aChecked
import GoSem.Claim
import GoSem.ClaimJoined
import GoSem.ClaimMapViews
import Derived.JoinedTies
import Derived.KernelRfl
namespace Go.Proofs.Qxb6630193a
/- THE CELL 'sum', in the pinned program and in every row, IS THE sha256 OF THE DUMP (.gsa) THAT Qxb6630193aProg.lean LOADS. Nothing in Lean hashes anything: it is a label: what it is worth is what the hold of that sum in a sandbox is worth. -/
noncomputable def Try.pinned : Pinned := { name := "qxb6630193a", sum := "e73b1558b2b0daea2f154aa34cd69080e90db499c961d8e6edfd46f68c9280a1", checked := Try.checked }
namespace Rows
def none {H : Type} : Left H := { results := [], args := [] }

/-- 'zzlaws_root_b1.FnStandingWholeTokensAndExactWait': WHATEVER THE INPUT: true; the input reads as it did. -/
def fnStandingWholeTokensAndExactWaitSpec : ChangeSpec := { name := "fnStandingWholeTokensAndExactWait", fn := fun _ => fun
  | [d1, d2, d3, d4] => { results := [.lit (.bool true)], args := [d1, d2, d3, d4] }
  | _ => none }
def fnStandingWholeTokensAndExactWaitRow : OpenClaim := { program := "qxb6630193a", sum := "e73b1558b2b0daea2f154aa34cd69080e90db499c961d8e6edfd46f68c9280a1", func := "example.com/throttl/throttl/zzlaws_root_b1.FnStandingWholeTokensAndExactWait", spec := "fnStandingWholeTokensAndExactWait", apart := false }
def FnStandingWholeTokensAndExactWaitSaid : Prop := fnStandingWholeTokensAndExactWaitRow.holds Try.pinned (OpenSpec.ofChange fnStandingWholeTokensAndExactWaitSpec)

/-- ITS FALSE NEIGHBOUR: 'it returns false'. Refute it at one input. -/
def fnStandingWholeTokensAndExactWaitWrong : ChangeSpec := { name := "fnStandingWholeTokensAndExactWait", fn := fun _ => fun
  | [d1, d2, d3, d4] => { results := [.lit (.bool false)], args := [d1, d2, d3, d4] }
  | _ => none }
def FnStandingWholeTokensAndExactWaitWrongFalsely : Prop := fnStandingWholeTokensAndExactWaitRow.holds Try.pinned (OpenSpec.ofChange fnStandingWholeTokensAndExactWaitWrong)

/-- 'zzlaws_root_b1.FnStandingShiftByTokenOrByGain': WHATEVER THE INPUT: true; the input reads as it did. -/
def fnStandingShiftByTokenOrByGainSpec : ChangeSpec := { name := "fnStandingShiftByTokenOrByGain", fn := fun _ => fun
  | [d1, d2, d3, d4] => { results := [.lit (.bool true)], args := [d1, d2, d3, d4] }
  | _ => none }
def fnStandingShiftByTokenOrByGainRow : OpenClaim := { program := "qxb6630193a", sum := "e73b1558b2b0daea2f154aa34cd69080e90db499c961d8e6edfd46f68c9280a1", func := "example.com/throttl/throttl/zzlaws_root_b1.FnStandingShiftByTokenOrByGain", spec := "fnStandingShiftByTokenOrByGain", apart := false }
def FnStandingShiftByTokenOrByGainSaid : Prop := fnStandingShiftByTokenOrByGainRow.holds Try.pinned (OpenSpec.ofChange fnStandingShiftByTokenOrByGainSpec)

/-- ITS FALSE NEIGHBOUR: 'it returns false'. Refute it at one input. -/
def fnStandingShiftByTokenOrByGainWrong : ChangeSpec := { name := "fnStandingShiftByTokenOrByGain", fn := fun _ => fun
  | [d1, d2, d3, d4] => { results := [.lit (.bool false)], args := [d1, d2, d3, d4] }
  | _ => none }
def FnStandingShiftByTokenOrByGainWrongFalsely : Prop := fnStandingShiftByTokenOrByGainRow.holds Try.pinned (OpenSpec.ofChange fnStandingShiftByTokenOrByGainWrong)

end Rows
end Go.Proofs.Qxb6630193a
