/-
  NARROWER THAN 'FOR EVERY INPUT', by the rows' own cells (each row's printed sentence says how): FnEachLineMatchesModel: laid · FnEachLineCutAtNewline: laid.
  DERIVED. THE GIVEN ROWS OF THIS SEAT. 3 by the template 'for every input the law returns true; each argument reads behind the call as it read before'; 0 by the template 'total and deterministic' (their statements: Qxb6614934aFmtTotals.lean).
  GIVEN WITH THE SEED: the statements are not yours to turn. If you find one false, say at which input.
  Laid BY PROGRAM, IN A SANDBOX (cutbox-rows.mjs): the forced cells as the released guide's own fill.sh prints them over the translation dcd760dee395d7cc… (all of the seat's roots in one cut). By AI agents, Wed Nov 11 2026. No macro, syntax, notation, axiom, sorry.
-/
import Derived.Test.Qxb6614934aFmtChecked
import GoSem.Claim
import GoSem.ClaimJoined
import GoSem.ClaimMapViews
import Derived.JoinedTies
import Derived.KernelRfl
namespace Go.Proofs.Qxb6614934aFmt
/- THE CELL 'sum', in the pinned program and in every row, IS THE sha256 OF THE DUMP (.gsa) THAT Qxb6614934aFmtProg.lean LOADS. Nothing in Lean hashes anything: it is a label: what it is worth is what the hold of that sum in a sandbox is worth. -/
noncomputable def Tryf.pinned : Pinned := { name := "qxb6614934afmt", sum := "dcd760dee395d7cc323934566b5c6d25ee7062dd62203778125f08e412684d5b", checked := Tryf.checked }
namespace Rows
def none {H : Type} : Left H := { results := [], args := [] }

/- WHAT THE LISTED PACKAGE-LEVEL VARIABLES READ AS WHEN THE CALL BEGINS. Each datum BY PROGRAM (the guide's laid-datum.mjs) off the statement by which the dump's own 'gosem.cut.vars' lays the variable. In a bare row this is a premise. The card (Qxb6614934aFmtCards.lean) ties it to the program's text. -/
def laid_errors_errorType {H : Type} : DataW H := .iface "internal/reflectlite.rtype" (.agg [.ptr (.lit (.string [101, 114, 114, 111, 114]))])
def laid_io_EOF {H : Type} : DataW H := .iface "*errors.errorString" (.ptr (.agg [.lit (.string [69, 79, 70])]))
def laid_io_ErrNoProgress {H : Type} : DataW H := .iface "*errors.errorString" (.ptr (.agg [.lit (.string [109, 117, 108, 116, 105, 112, 108, 101, 32, 82, 101, 97, 100, 32, 99, 97, 108, 108, 115, 32, 114, 101, 116, 117, 114, 110, 32, 110, 111, 32, 100, 97, 116, 97, 32, 111, 114, 32, 101, 114, 114, 111, 114])]))
def laid_bufio_ErrTooLong {H : Type} : DataW H := .iface "*errors.errorString" (.ptr (.agg [.lit (.string [98, 117, 102, 105, 111, 46, 83, 99, 97, 110, 110, 101, 114, 58, 32, 116, 111, 107, 101, 110, 32, 116, 111, 111, 32, 108, 111, 110, 103])]))
def laid_bufio_ErrNegativeAdvance {H : Type} : DataW H := .iface "*errors.errorString" (.ptr (.agg [.lit (.string [98, 117, 102, 105, 111, 46, 83, 99, 97, 110, 110, 101, 114, 58, 32, 83, 112, 108, 105, 116, 70, 117, 110, 99, 32, 114, 101, 116, 117, 114, 110, 115, 32, 110, 101, 103, 97, 116, 105, 118, 101, 32, 97, 100, 118, 97, 110, 99, 101, 32, 99, 111, 117, 110, 116])]))
def laid_bufio_ErrAdvanceTooFar {H : Type} : DataW H := .iface "*errors.errorString" (.ptr (.agg [.lit (.string [98, 117, 102, 105, 111, 46, 83, 99, 97, 110, 110, 101, 114, 58, 32, 83, 112, 108, 105, 116, 70, 117, 110, 99, 32, 114, 101, 116, 117, 114, 110, 115, 32, 97, 100, 118, 97, 110, 99, 101, 32, 99, 111, 117, 110, 116, 32, 98, 101, 121, 111, 110, 100, 32, 105, 110, 112, 117, 116])]))
def laid_bufio_ErrBadReadCount {H : Type} : DataW H := .iface "*errors.errorString" (.ptr (.agg [.lit (.string [98, 117, 102, 105, 111, 46, 83, 99, 97, 110, 110, 101, 114, 58, 32, 82, 101, 97, 100, 32, 114, 101, 116, 117, 114, 110, 101, 100, 32, 105, 109, 112, 111, 115, 115, 105, 98, 108, 101, 32, 99, 111, 117, 110, 116])]))
def laid_bufio_ErrFinalToken {H : Type} : DataW H := .iface "*errors.errorString" (.ptr (.agg [.lit (.string [102, 105, 110, 97, 108, 32, 116, 111, 107, 101, 110])]))

/-- 'zzlaws_fstab_b1.FnIsBlankIsWhatEscapeWidens': WHATEVER THE INPUT: true; the input reads as it did. -/
def fnIsBlankIsWhatEscapeWidensSpec : ChangeSpec := { name := "fnIsBlankIsWhatEscapeWidens", fn := fun _ => fun
  | [d] => { results := [.lit (.bool true)], args := [d] }
  | _ => none }
def fnIsBlankIsWhatEscapeWidensRow : OpenClaim := { program := "qxb6614934afmt", sum := "dcd760dee395d7cc323934566b5c6d25ee7062dd62203778125f08e412684d5b", func := "example.com/roamkit/roamkit/zzlaws_fstab_b1.FnIsBlankIsWhatEscapeWidens", spec := "fnIsBlankIsWhatEscapeWidens", stops := ["fmt.Sprintf"], inPlace := ["fmt.Fprintf", "fmt.Sprintf", "internal/abi.NoEscape"], unfollowed := true, recurses := true, apart := false }
/-- NO THEOREM (fmt's text is open here; it may be false): for the released tool's asking of the row's closed facts alone. THE STATEMENT IS 'FnIsBlankIsWhatEscapeWidensToldSaid' (Qxb6614934aFmtCards.lean). -/
def FnIsBlankIsWhatEscapeWidensFormAsk : Prop := fnIsBlankIsWhatEscapeWidensRow.holds Tryf.pinned (OpenSpec.ofChange fnIsBlankIsWhatEscapeWidensSpec)

/-- ITS FALSE NEIGHBOUR: 'it returns false'. Refute it at one input. -/
def fnIsBlankIsWhatEscapeWidensWrong : ChangeSpec := { name := "fnIsBlankIsWhatEscapeWidens", fn := fun _ => fun
  | [d] => { results := [.lit (.bool false)], args := [d] }
  | _ => none }
def FnIsBlankIsWhatEscapeWidensWrongFormAsk : Prop := fnIsBlankIsWhatEscapeWidensRow.holds Tryf.pinned (OpenSpec.ofChange fnIsBlankIsWhatEscapeWidensWrong)

/-- 'zzlaws_fstab_b1.FnEachLineMatchesModel': WHATEVER THE INPUT: true; the input reads as it did. -/
def fnEachLineMatchesModelSpec : ChangeSpec := { name := "fnEachLineMatchesModel", fn := fun _ => fun
  | [d1, d2] => { results := [.lit (.bool true)], args := [d1, d2] }
  | _ => none }
def fnEachLineMatchesModelRow : OpenClaim := { program := "qxb6614934afmt", sum := "dcd760dee395d7cc323934566b5c6d25ee7062dd62203778125f08e412684d5b", func := "example.com/roamkit/roamkit/zzlaws_fstab_b1.FnEachLineMatchesModel", spec := "fnEachLineMatchesModel", stops := ["fmt.Sprintf"], inPlace := ["internal/bytealg.IndexByte", "internal/reflectlite.TypeOf", "internal/reflectlite.ValueOf", "(internal/reflectlite.Value).Type", "(internal/reflectlite.Value).IsNil", "(internal/reflectlite.Value).Elem", "(internal/reflectlite.Value).Set"], unfollowed := true, recurses := true, named := ["bufio.ErrTooLong", "bufio.ErrFinalToken", "bufio.ErrBadReadCount", "io.ErrNoProgress", "io.EOF", "bufio.ErrNegativeAdvance", "bufio.ErrAdvanceTooFar", "errors.errorType"], apart := false, laid := [("errors.errorType", laid_errors_errorType), ("io.EOF", laid_io_EOF), ("io.ErrNoProgress", laid_io_ErrNoProgress), ("bufio.ErrTooLong", laid_bufio_ErrTooLong), ("bufio.ErrNegativeAdvance", laid_bufio_ErrNegativeAdvance), ("bufio.ErrAdvanceTooFar", laid_bufio_ErrAdvanceTooFar), ("bufio.ErrBadReadCount", laid_bufio_ErrBadReadCount), ("bufio.ErrFinalToken", laid_bufio_ErrFinalToken)] }
/-- NO THEOREM (fmt's text is open here; it may be false): for the released tool's asking of the row's closed facts alone. THE STATEMENT IS 'FnEachLineMatchesModelToldSaid' (Qxb6614934aFmtCards.lean). -/
def FnEachLineMatchesModelFormAsk : Prop := fnEachLineMatchesModelRow.holds Tryf.pinned (OpenSpec.ofChange fnEachLineMatchesModelSpec)

/-- ITS FALSE NEIGHBOUR: 'it returns false'. Refute it at one input. -/
def fnEachLineMatchesModelWrong : ChangeSpec := { name := "fnEachLineMatchesModel", fn := fun _ => fun
  | [d1, d2] => { results := [.lit (.bool false)], args := [d1, d2] }
  | _ => none }
def FnEachLineMatchesModelWrongFormAsk : Prop := fnEachLineMatchesModelRow.holds Tryf.pinned (OpenSpec.ofChange fnEachLineMatchesModelWrong)

/-- 'zzlaws_fstab_b1.FnEachLineCutAtNewline': WHATEVER THE INPUT: true; the input reads as it did. -/
def fnEachLineCutAtNewlineSpec : ChangeSpec := { name := "fnEachLineCutAtNewline", fn := fun _ => fun
  | [d1, d2] => { results := [.lit (.bool true)], args := [d1, d2] }
  | _ => none }
def fnEachLineCutAtNewlineRow : OpenClaim := { program := "qxb6614934afmt", sum := "dcd760dee395d7cc323934566b5c6d25ee7062dd62203778125f08e412684d5b", func := "example.com/roamkit/roamkit/zzlaws_fstab_b1.FnEachLineCutAtNewline", spec := "fnEachLineCutAtNewline", stops := ["fmt.Sprintf"], inPlace := ["internal/bytealg.IndexByte", "internal/reflectlite.TypeOf", "internal/reflectlite.ValueOf", "(internal/reflectlite.Value).Type", "(internal/reflectlite.Value).IsNil", "(internal/reflectlite.Value).Elem", "(internal/reflectlite.Value).Set"], unfollowed := true, recurses := true, named := ["bufio.ErrTooLong", "bufio.ErrFinalToken", "bufio.ErrBadReadCount", "io.ErrNoProgress", "io.EOF", "bufio.ErrNegativeAdvance", "bufio.ErrAdvanceTooFar", "errors.errorType"], apart := false, laid := [("errors.errorType", laid_errors_errorType), ("io.EOF", laid_io_EOF), ("io.ErrNoProgress", laid_io_ErrNoProgress), ("bufio.ErrTooLong", laid_bufio_ErrTooLong), ("bufio.ErrNegativeAdvance", laid_bufio_ErrNegativeAdvance), ("bufio.ErrAdvanceTooFar", laid_bufio_ErrAdvanceTooFar), ("bufio.ErrBadReadCount", laid_bufio_ErrBadReadCount), ("bufio.ErrFinalToken", laid_bufio_ErrFinalToken)] }
/-- NO THEOREM (fmt's text is open here; it may be false): for the released tool's asking of the row's closed facts alone. THE STATEMENT IS 'FnEachLineCutAtNewlineToldSaid' (Qxb6614934aFmtCards.lean). -/
def FnEachLineCutAtNewlineFormAsk : Prop := fnEachLineCutAtNewlineRow.holds Tryf.pinned (OpenSpec.ofChange fnEachLineCutAtNewlineSpec)

/-- ITS FALSE NEIGHBOUR: 'it returns false'. Refute it at one input. -/
def fnEachLineCutAtNewlineWrong : ChangeSpec := { name := "fnEachLineCutAtNewline", fn := fun _ => fun
  | [d1, d2] => { results := [.lit (.bool false)], args := [d1, d2] }
  | _ => none }
def FnEachLineCutAtNewlineWrongFormAsk : Prop := fnEachLineCutAtNewlineRow.holds Tryf.pinned (OpenSpec.ofChange fnEachLineCutAtNewlineWrong)

end Rows
end Go.Proofs.Qxb6614934aFmt
