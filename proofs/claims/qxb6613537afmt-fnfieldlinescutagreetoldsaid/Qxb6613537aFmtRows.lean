/-
  NARROWER THAN 'FOR EVERY INPUT', by the rows' own cells (each row's printed sentence says how): FnReaderFieldsRebuildText: laid · FnReaderSplitDeliveryAgrees: laid · FnFieldLinesCutAgree: laid.
  DERIVED. THE GIVEN ROWS OF THIS SEAT. 3 by the template 'for every input the law returns true; each argument reads behind the call as it read before'; 0 by the template 'total and deterministic' (their statements: Qxb6613537aFmtTotals.lean).
  GIVEN WITH THE SEED: the statements are not yours to turn. If you find one false, say at which input.
  Laid BY PROGRAM, IN A SANDBOX (cutbox-rows.mjs): the forced cells as the released guide's own fill.sh prints them over the translation 93f28923b16a5ef1… (all of the seat's roots in one cut). By AI agents, Wed Nov 11 2026. No macro, syntax, notation, axiom, sorry.
-/
import Derived.Test.Qxb6613537aFmtChecked
import GoSem.PinnedTables
import GoSem.Claim
import GoSem.ClaimJoined
import GoSem.ClaimMapViews
import Derived.JoinedTies
import Derived.KernelRfl
namespace Go.Proofs.Qxb6613537aFmt
/- THE CELL 'sum', in the pinned program and in every row, IS THE sha256 OF THE DUMP (.gsa) THAT Qxb6613537aFmtProg.lean LOADS. Nothing in Lean hashes anything: it is a label: what it is worth is what the hold of that sum in a sandbox is worth. -/
noncomputable def Tryf.pinned : Pinned := { name := "qxb6613537afmt", sum := "93f28923b16a5ef1c47f68c8ee319e7f7e79ea9ad4d339646ba84f4d4a475e48", checked := Tryf.checked }
namespace Rows
def none {H : Type} : Left H := { results := [], args := [] }

/- WHAT THE LISTED PACKAGE-LEVEL VARIABLES READ AS WHEN THE CALL BEGINS. Each datum BY PROGRAM (the guide's laid-datum.mjs) off the statement by which the dump's own 'gosem.cut.vars' lays the variable. In a bare row this is a premise. The card (Qxb6613537aFmtCards.lean) ties it to the program's text. -/
def laid_unicode_utf8_acceptRanges {H : Type} : DataW H := .agg [.agg [.lit (.int .u8 128), .lit (.int .u8 191)], .agg [.lit (.int .u8 160), .lit (.int .u8 191)], .agg [.lit (.int .u8 128), .lit (.int .u8 159)], .agg [.lit (.int .u8 144), .lit (.int .u8 191)], .agg [.lit (.int .u8 128), .lit (.int .u8 143)], .agg [.lit (.int .u8 0), .lit (.int .u8 0)], .agg [.lit (.int .u8 0), .lit (.int .u8 0)], .agg [.lit (.int .u8 0), .lit (.int .u8 0)], .agg [.lit (.int .u8 0), .lit (.int .u8 0)], .agg [.lit (.int .u8 0), .lit (.int .u8 0)], .agg [.lit (.int .u8 0), .lit (.int .u8 0)], .agg [.lit (.int .u8 0), .lit (.int .u8 0)], .agg [.lit (.int .u8 0), .lit (.int .u8 0)], .agg [.lit (.int .u8 0), .lit (.int .u8 0)], .agg [.lit (.int .u8 0), .lit (.int .u8 0)], .agg [.lit (.int .u8 0), .lit (.int .u8 0)]]
def laid_io_EOF {H : Type} : DataW H := .iface "*errors.errorString" (.ptr (.agg [.lit (.string [69, 79, 70])]))
def laid_io_ErrNoProgress {H : Type} : DataW H := .iface "*errors.errorString" (.ptr (.agg [.lit (.string [109, 117, 108, 116, 105, 112, 108, 101, 32, 82, 101, 97, 100, 32, 99, 97, 108, 108, 115, 32, 114, 101, 116, 117, 114, 110, 32, 110, 111, 32, 100, 97, 116, 97, 32, 111, 114, 32, 101, 114, 114, 111, 114])]))
def laid_bufio_ErrTooLong {H : Type} : DataW H := .iface "*errors.errorString" (.ptr (.agg [.lit (.string [98, 117, 102, 105, 111, 46, 83, 99, 97, 110, 110, 101, 114, 58, 32, 116, 111, 107, 101, 110, 32, 116, 111, 111, 32, 108, 111, 110, 103])]))
def laid_bufio_ErrNegativeAdvance {H : Type} : DataW H := .iface "*errors.errorString" (.ptr (.agg [.lit (.string [98, 117, 102, 105, 111, 46, 83, 99, 97, 110, 110, 101, 114, 58, 32, 83, 112, 108, 105, 116, 70, 117, 110, 99, 32, 114, 101, 116, 117, 114, 110, 115, 32, 110, 101, 103, 97, 116, 105, 118, 101, 32, 97, 100, 118, 97, 110, 99, 101, 32, 99, 111, 117, 110, 116])]))
def laid_bufio_ErrAdvanceTooFar {H : Type} : DataW H := .iface "*errors.errorString" (.ptr (.agg [.lit (.string [98, 117, 102, 105, 111, 46, 83, 99, 97, 110, 110, 101, 114, 58, 32, 83, 112, 108, 105, 116, 70, 117, 110, 99, 32, 114, 101, 116, 117, 114, 110, 115, 32, 97, 100, 118, 97, 110, 99, 101, 32, 99, 111, 117, 110, 116, 32, 98, 101, 121, 111, 110, 100, 32, 105, 110, 112, 117, 116])]))
def laid_bufio_ErrBadReadCount {H : Type} : DataW H := .iface "*errors.errorString" (.ptr (.agg [.lit (.string [98, 117, 102, 105, 111, 46, 83, 99, 97, 110, 110, 101, 114, 58, 32, 82, 101, 97, 100, 32, 114, 101, 116, 117, 114, 110, 101, 100, 32, 105, 109, 112, 111, 115, 115, 105, 98, 108, 101, 32, 99, 111, 117, 110, 116])]))
def laid_bufio_ErrFinalToken {H : Type} : DataW H := .iface "*errors.errorString" (.ptr (.agg [.lit (.string [102, 105, 110, 97, 108, 32, 116, 111, 107, 101, 110])]))
/-- One of Go's own tables, pinned by name: the form's constant. -/
def laid_unicode_utf8_first : DataW Unit := Go.Pinned.utf8First

/-- 'zzlaws_manifest_b1.FnReaderFieldsRebuildText': WHATEVER THE INPUT: true; the input reads as it did. -/
def fnReaderFieldsRebuildTextSpec : ChangeSpec := { name := "fnReaderFieldsRebuildText", fn := fun _ => fun
  | [d] => { results := [.lit (.bool true)], args := [d] }
  | _ => none }
def fnReaderFieldsRebuildTextRow : OpenClaim := { program := "qxb6613537afmt", sum := "93f28923b16a5ef1c47f68c8ee319e7f7e79ea9ad4d339646ba84f4d4a475e48", func := "example.com/tessera/tessera/zzlaws_manifest_b1.FnReaderFieldsRebuildText", spec := "fnReaderFieldsRebuildText", stops := ["fmt.errorf"], inPlace := ["internal/bytealg.IndexByte", "internal/bytealg.IndexByteString", "internal/bytealg.Index", "internal/bytealg.IndexString", "fmt.errorf"], unfollowed := true, recurses := true, named := ["internal/bytealg.MaxLen", "unicode/utf8.first", "unicode/utf8.acceptRanges", "bufio.ErrFinalToken", "bufio.ErrTooLong", "bufio.ErrBadReadCount", "io.ErrNoProgress", "io.EOF", "bufio.ErrNegativeAdvance", "bufio.ErrAdvanceTooFar"], apart := false, laid := [("unicode/utf8.acceptRanges", laid_unicode_utf8_acceptRanges), ("io.EOF", laid_io_EOF), ("io.ErrNoProgress", laid_io_ErrNoProgress), ("bufio.ErrTooLong", laid_bufio_ErrTooLong), ("bufio.ErrNegativeAdvance", laid_bufio_ErrNegativeAdvance), ("bufio.ErrAdvanceTooFar", laid_bufio_ErrAdvanceTooFar), ("bufio.ErrBadReadCount", laid_bufio_ErrBadReadCount), ("bufio.ErrFinalToken", laid_bufio_ErrFinalToken), ("unicode/utf8.first", laid_unicode_utf8_first)] }
/-- NO THEOREM (fmt's text is open here; it may be false): for the released tool's asking of the row's closed facts alone. THE STATEMENT IS 'FnReaderFieldsRebuildTextToldSaid' (Qxb6613537aFmtCards.lean). -/
def FnReaderFieldsRebuildTextFormAsk : Prop := fnReaderFieldsRebuildTextRow.holds Tryf.pinned (OpenSpec.ofChange fnReaderFieldsRebuildTextSpec)

/-- ITS FALSE NEIGHBOUR: 'it returns false'. Refute it at one input. -/
def fnReaderFieldsRebuildTextWrong : ChangeSpec := { name := "fnReaderFieldsRebuildText", fn := fun _ => fun
  | [d] => { results := [.lit (.bool false)], args := [d] }
  | _ => none }
def FnReaderFieldsRebuildTextWrongFormAsk : Prop := fnReaderFieldsRebuildTextRow.holds Tryf.pinned (OpenSpec.ofChange fnReaderFieldsRebuildTextWrong)

/-- 'zzlaws_manifest_b1.FnReaderSplitDeliveryAgrees': WHATEVER THE INPUT: true; the input reads as it did. -/
def fnReaderSplitDeliveryAgreesSpec : ChangeSpec := { name := "fnReaderSplitDeliveryAgrees", fn := fun _ => fun
  | [d1, d2] => { results := [.lit (.bool true)], args := [d1, d2] }
  | _ => none }
def fnReaderSplitDeliveryAgreesRow : OpenClaim := { program := "qxb6613537afmt", sum := "93f28923b16a5ef1c47f68c8ee319e7f7e79ea9ad4d339646ba84f4d4a475e48", func := "example.com/tessera/tessera/zzlaws_manifest_b1.FnReaderSplitDeliveryAgrees", spec := "fnReaderSplitDeliveryAgrees", stops := ["fmt.errorf"], inPlace := ["internal/bytealg.IndexByte", "internal/bytealg.IndexByteString", "internal/bytealg.Index", "internal/bytealg.IndexString", "fmt.errorf"], unfollowed := true, recurses := true, named := ["internal/bytealg.MaxLen", "unicode/utf8.first", "unicode/utf8.acceptRanges", "bufio.ErrFinalToken", "bufio.ErrTooLong", "bufio.ErrBadReadCount", "io.ErrNoProgress", "io.EOF", "bufio.ErrNegativeAdvance", "bufio.ErrAdvanceTooFar"], apart := false, laid := [("unicode/utf8.acceptRanges", laid_unicode_utf8_acceptRanges), ("io.EOF", laid_io_EOF), ("io.ErrNoProgress", laid_io_ErrNoProgress), ("bufio.ErrTooLong", laid_bufio_ErrTooLong), ("bufio.ErrNegativeAdvance", laid_bufio_ErrNegativeAdvance), ("bufio.ErrAdvanceTooFar", laid_bufio_ErrAdvanceTooFar), ("bufio.ErrBadReadCount", laid_bufio_ErrBadReadCount), ("bufio.ErrFinalToken", laid_bufio_ErrFinalToken), ("unicode/utf8.first", laid_unicode_utf8_first)] }
/-- NO THEOREM (fmt's text is open here; it may be false): for the released tool's asking of the row's closed facts alone. THE STATEMENT IS 'FnReaderSplitDeliveryAgreesToldSaid' (Qxb6613537aFmtCards.lean). -/
def FnReaderSplitDeliveryAgreesFormAsk : Prop := fnReaderSplitDeliveryAgreesRow.holds Tryf.pinned (OpenSpec.ofChange fnReaderSplitDeliveryAgreesSpec)

/-- ITS FALSE NEIGHBOUR: 'it returns false'. Refute it at one input. -/
def fnReaderSplitDeliveryAgreesWrong : ChangeSpec := { name := "fnReaderSplitDeliveryAgrees", fn := fun _ => fun
  | [d1, d2] => { results := [.lit (.bool false)], args := [d1, d2] }
  | _ => none }
def FnReaderSplitDeliveryAgreesWrongFormAsk : Prop := fnReaderSplitDeliveryAgreesRow.holds Tryf.pinned (OpenSpec.ofChange fnReaderSplitDeliveryAgreesWrong)

/-- 'zzlaws_manifest_b1.FnFieldLinesCutAgree': WHATEVER THE INPUT: true; the input reads as it did. -/
def fnFieldLinesCutAgreeSpec : ChangeSpec := { name := "fnFieldLinesCutAgree", fn := fun _ => fun
  | [d1, d2] => { results := [.lit (.bool true)], args := [d1, d2] }
  | _ => none }
def fnFieldLinesCutAgreeRow : OpenClaim := { program := "qxb6613537afmt", sum := "93f28923b16a5ef1c47f68c8ee319e7f7e79ea9ad4d339646ba84f4d4a475e48", func := "example.com/tessera/tessera/zzlaws_manifest_b1.FnFieldLinesCutAgree", spec := "fnFieldLinesCutAgree", stops := ["fmt.errorf"], inPlace := ["internal/bytealg.IndexByte", "internal/bytealg.IndexByteString", "internal/bytealg.Index", "internal/bytealg.IndexString", "fmt.errorf"], unfollowed := true, recurses := true, named := ["internal/bytealg.MaxLen", "unicode/utf8.first", "unicode/utf8.acceptRanges", "bufio.ErrFinalToken", "bufio.ErrTooLong", "bufio.ErrBadReadCount", "io.ErrNoProgress", "io.EOF", "bufio.ErrNegativeAdvance", "bufio.ErrAdvanceTooFar"], apart := false, laid := [("unicode/utf8.acceptRanges", laid_unicode_utf8_acceptRanges), ("io.EOF", laid_io_EOF), ("io.ErrNoProgress", laid_io_ErrNoProgress), ("bufio.ErrTooLong", laid_bufio_ErrTooLong), ("bufio.ErrNegativeAdvance", laid_bufio_ErrNegativeAdvance), ("bufio.ErrAdvanceTooFar", laid_bufio_ErrAdvanceTooFar), ("bufio.ErrBadReadCount", laid_bufio_ErrBadReadCount), ("bufio.ErrFinalToken", laid_bufio_ErrFinalToken), ("unicode/utf8.first", laid_unicode_utf8_first)] }
/-- NO THEOREM (fmt's text is open here; it may be false): for the released tool's asking of the row's closed facts alone. THE STATEMENT IS 'FnFieldLinesCutAgreeToldSaid' (Qxb6613537aFmtCards.lean). -/
def FnFieldLinesCutAgreeFormAsk : Prop := fnFieldLinesCutAgreeRow.holds Tryf.pinned (OpenSpec.ofChange fnFieldLinesCutAgreeSpec)

/-- ITS FALSE NEIGHBOUR: 'it returns false'. Refute it at one input. -/
def fnFieldLinesCutAgreeWrong : ChangeSpec := { name := "fnFieldLinesCutAgree", fn := fun _ => fun
  | [d1, d2] => { results := [.lit (.bool false)], args := [d1, d2] }
  | _ => none }
def FnFieldLinesCutAgreeWrongFormAsk : Prop := fnFieldLinesCutAgreeRow.holds Tryf.pinned (OpenSpec.ofChange fnFieldLinesCutAgreeWrong)

end Rows
end Go.Proofs.Qxb6613537aFmt
