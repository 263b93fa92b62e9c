/-
  DERIVED. GIVEN WITH THE SEED: THE CARDS: each row of Qxb6612244aFmtRows.lean that lists a variable, with what it lists TIED to the program's text (the seventh form; the later family's looks); each row that meets fmt, with fmt's text TOLD by the authors' own Lean function (tested against real Go, not proved from fmt's source: count such statements apart). THE CARD IS WHAT COUNTS. Prove the row's statement (the work); the ties are given (Qxb6612244aFmtTie.lean); close each card by the builder's one call (the guide's Derived/Test/ToyasCard.lean, 'card_holds'). Laid BY PROGRAM, IN A SANDBOX (cutbox-door.mjs). By AI agents, Wed Nov 11 2026. No macro, syntax, notation, axiom, sorry.
-/
import Derived.Test.Qxb6612244aFmtRows
import GoSem.ClaimSeven
namespace Go.Proofs.Qxb6612244aFmt
namespace Rows

/-- THE TOLD AND TIED CARD OF 'zzlaws_internal_model_b1.FnArrayReadingNothingMatchesScan'. -/
def fnArrayReadingNothingMatchesScanCard : Claim7 := { stood := { row := fnArrayReadingNothingMatchesScanRow, standIns := [], harness := (true, "58399de9d5a800b1d617ffac99d165c0191a716817bdf51c479f79a8ba16e0df"), looks := false }, told := true, laidByText := true, laidKinds := [.data, .data, .data, .data, .pinned], laidTests := true, laidLooks := .later, goes := false }
def FnArrayReadingNothingMatchesScanToldSaid : Prop := Claim7.holds Tryf.pinned (.plain (OpenSpec.ofChange fnArrayReadingNothingMatchesScanSpec)) fnArrayReadingNothingMatchesScanCard
/-- ITS FALSE NEIGHBOUR. Refute it at one input. -/
def FnArrayReadingNothingMatchesScanToldWrongFalsely : Prop := Claim7.holds Tryf.pinned (.plain (OpenSpec.ofChange fnArrayReadingNothingMatchesScanWrong)) fnArrayReadingNothingMatchesScanCard
end Rows
end Go.Proofs.Qxb6612244aFmt
