/-
  DERIVED. GIVEN WITH THE SEED: THE CARDS: each row of Qxb6613537aFmtRows.lean that lists a variable, with what it lists TIED to the program's text (the seventh form; the later family's looks); each row that meets fmt, with fmt's text TOLD by the authors' own Lean function (tested against real Go, not proved from fmt's source: count such statements apart). THE CARD IS WHAT COUNTS. Prove the row's statement (the work); the ties are given (Qxb6613537aFmtTie.lean); close each card by the builder's one call (the guide's Derived/Test/ToyasCard.lean, 'card_holds'). Laid BY PROGRAM, IN A SANDBOX (cutbox-door.mjs). By AI agents, Wed Nov 11 2026. No macro, syntax, notation, axiom, sorry.
-/
import Derived.Test.Qxb6613537aFmtRows
import GoSem.ClaimSeven
namespace Go.Proofs.Qxb6613537aFmt
namespace Rows

/-- THE TOLD AND TIED CARD OF 'zzlaws_manifest_b1.FnReaderFieldsRebuildText'. -/
def fnReaderFieldsRebuildTextCard : Claim7 := { stood := { row := fnReaderFieldsRebuildTextRow, standIns := [], harness := (true, "7623ddf0a54ce6c9ddde6fb37eebac6f250c1d01a5a470847e521e8370ff4297"), looks := true }, told := true, laidByText := true, laidKinds := [.data, .sentinel, .sentinel, .sentinel, .sentinel, .sentinel, .sentinel, .sentinel, .pinned], laidTests := true, laidLooks := .later, goes := false }
def FnReaderFieldsRebuildTextToldSaid : Prop := Claim7.holds Tryf.pinned (.plain (OpenSpec.ofChange fnReaderFieldsRebuildTextSpec)) fnReaderFieldsRebuildTextCard
/-- ITS FALSE NEIGHBOUR. Refute it at one input. -/
def FnReaderFieldsRebuildTextToldWrongFalsely : Prop := Claim7.holds Tryf.pinned (.plain (OpenSpec.ofChange fnReaderFieldsRebuildTextWrong)) fnReaderFieldsRebuildTextCard

/-- THE TOLD AND TIED CARD OF 'zzlaws_manifest_b1.FnReaderSplitDeliveryAgrees'. -/
def fnReaderSplitDeliveryAgreesCard : Claim7 := { stood := { row := fnReaderSplitDeliveryAgreesRow, standIns := [], harness := (true, "7623ddf0a54ce6c9ddde6fb37eebac6f250c1d01a5a470847e521e8370ff4297"), looks := true }, told := true, laidByText := true, laidKinds := [.data, .sentinel, .sentinel, .sentinel, .sentinel, .sentinel, .sentinel, .sentinel, .pinned], laidTests := true, laidLooks := .later, goes := false }
def FnReaderSplitDeliveryAgreesToldSaid : Prop := Claim7.holds Tryf.pinned (.plain (OpenSpec.ofChange fnReaderSplitDeliveryAgreesSpec)) fnReaderSplitDeliveryAgreesCard
/-- ITS FALSE NEIGHBOUR. Refute it at one input. -/
def FnReaderSplitDeliveryAgreesToldWrongFalsely : Prop := Claim7.holds Tryf.pinned (.plain (OpenSpec.ofChange fnReaderSplitDeliveryAgreesWrong)) fnReaderSplitDeliveryAgreesCard

/-- THE TOLD AND TIED CARD OF 'zzlaws_manifest_b1.FnFieldLinesCutAgree'. -/
def fnFieldLinesCutAgreeCard : Claim7 := { stood := { row := fnFieldLinesCutAgreeRow, standIns := [], harness := (true, "7623ddf0a54ce6c9ddde6fb37eebac6f250c1d01a5a470847e521e8370ff4297"), looks := true }, told := true, laidByText := true, laidKinds := [.data, .sentinel, .sentinel, .sentinel, .sentinel, .sentinel, .sentinel, .sentinel, .pinned], laidTests := true, laidLooks := .later, goes := false }
def FnFieldLinesCutAgreeToldSaid : Prop := Claim7.holds Tryf.pinned (.plain (OpenSpec.ofChange fnFieldLinesCutAgreeSpec)) fnFieldLinesCutAgreeCard
/-- ITS FALSE NEIGHBOUR. Refute it at one input. -/
def FnFieldLinesCutAgreeToldWrongFalsely : Prop := Claim7.holds Tryf.pinned (.plain (OpenSpec.ofChange fnFieldLinesCutAgreeWrong)) fnFieldLinesCutAgreeCard
end Rows
end Go.Proofs.Qxb6613537aFmt
