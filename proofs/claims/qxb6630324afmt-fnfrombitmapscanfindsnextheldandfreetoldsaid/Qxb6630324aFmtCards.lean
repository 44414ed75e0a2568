/-
  DERIVED. GIVEN WITH THE SEED: THE CARDS: each row of Qxb6630324aFmtRows.lean that lists a variable, with what it lists TIED to the program's text (the seventh form; the later family's looks); each row that meets fmt, with fmt's text TOLD by the authors' own Lean function (tested against real Go, not proved from fmt's source: count such statements apart). THE CARD IS WHAT COUNTS. Prove the row's statement (the work); the ties are given (Qxb6630324aFmtTie.lean); close each card by the builder's one call (the guide's Derived/Test/ToyasCard.lean, 'card_holds'). Laid BY PROGRAM, IN A SANDBOX (cutbox-door.mjs). By AI agents, Wed Nov 11 2026. No macro, syntax, notation, axiom, sorry.
-/
import Derived.Test.Qxb6630324aFmtRows
import GoSem.ClaimSeven
namespace Go.Proofs.Qxb6630324aFmt
namespace Rows

/-- THE TOLD CARD OF 'zzlaws_cpuset_b1.FnFromBitmapHoldsExactlyTheBits'. -/
def fnFromBitmapHoldsExactlyTheBitsCard : Claim7 := { stood := { row := fnFromBitmapHoldsExactlyTheBitsRow, standIns := [], harness := (true, "c004459b642ce8b82a808606acd8ecaece27ec0797f9fdd71ba2f1d7268e45c0"), looks := false }, told := true, goes := false }
def FnFromBitmapHoldsExactlyTheBitsToldSaid : Prop := Claim7.holds Tryf.pinned (.plain (OpenSpec.ofChange fnFromBitmapHoldsExactlyTheBitsSpec)) fnFromBitmapHoldsExactlyTheBitsCard
/-- ITS FALSE NEIGHBOUR. Refute it at one input. -/
def FnFromBitmapHoldsExactlyTheBitsToldWrongFalsely : Prop := Claim7.holds Tryf.pinned (.plain (OpenSpec.ofChange fnFromBitmapHoldsExactlyTheBitsWrong)) fnFromBitmapHoldsExactlyTheBitsCard

/-- THE TOLD AND TIED CARD OF 'zzlaws_cpuset_b1.FnFromBitmapScanFindsNextHeldAndFree'. -/
def fnFromBitmapScanFindsNextHeldAndFreeCard : Claim7 := { stood := { row := fnFromBitmapScanFindsNextHeldAndFreeRow, standIns := [], harness := (true, "c004459b642ce8b82a808606acd8ecaece27ec0797f9fdd71ba2f1d7268e45c0"), looks := false }, told := true, laidByText := true, laidKinds := [.data], laidTests := true, laidLooks := .later, goes := false }
def FnFromBitmapScanFindsNextHeldAndFreeToldSaid : Prop := Claim7.holds Tryf.pinned (.plain (OpenSpec.ofChange fnFromBitmapScanFindsNextHeldAndFreeSpec)) fnFromBitmapScanFindsNextHeldAndFreeCard
/-- ITS FALSE NEIGHBOUR. Refute it at one input. -/
def FnFromBitmapScanFindsNextHeldAndFreeToldWrongFalsely : Prop := Claim7.holds Tryf.pinned (.plain (OpenSpec.ofChange fnFromBitmapScanFindsNextHeldAndFreeWrong)) fnFromBitmapScanFindsNextHeldAndFreeCard
end Rows
end Go.Proofs.Qxb6630324aFmt
