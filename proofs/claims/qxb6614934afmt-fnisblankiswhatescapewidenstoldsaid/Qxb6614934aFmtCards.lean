/-
  DERIVED. GIVEN WITH THE SEED: THE CARDS: each row of Qxb6614934aFmtRows.lean that lists a variable, with what it lists TIED to the program's text (the seventh form; the later family's looks); each row that meets fmt, with fmt's text TOLD by the authors' own Lean function (tested against real Go, not proved from fmt's source: count such statements apart). THE CARD IS WHAT COUNTS. Prove the row's statement (the work); the ties are given (Qxb6614934aFmtTie.lean); close each card by the builder's one call (the guide's Derived/Test/ToyasCard.lean, 'card_holds'). Laid BY PROGRAM, IN A SANDBOX (cutbox-door.mjs). By AI agents, Wed Nov 11 2026. No macro, syntax, notation, axiom, sorry.
-/
import Derived.Test.Qxb6614934aFmtRows
import GoSem.ClaimSeven
namespace Go.Proofs.Qxb6614934aFmt
namespace Rows

/-- THE TOLD CARD OF 'zzlaws_fstab_b1.FnIsBlankIsWhatEscapeWidens'. -/
def fnIsBlankIsWhatEscapeWidensCard : Claim7 := { stood := { row := fnIsBlankIsWhatEscapeWidensRow, standIns := [], harness := (true, "ac96254cd86bf86c29854788a4b083d898ee1c02404abac4dd1d24915bf32f5a"), looks := true }, told := true, goes := false }
def FnIsBlankIsWhatEscapeWidensToldSaid : Prop := Claim7.holds Tryf.pinned (.plain (OpenSpec.ofChange fnIsBlankIsWhatEscapeWidensSpec)) fnIsBlankIsWhatEscapeWidensCard
/-- ITS FALSE NEIGHBOUR. Refute it at one input. -/
def FnIsBlankIsWhatEscapeWidensToldWrongFalsely : Prop := Claim7.holds Tryf.pinned (.plain (OpenSpec.ofChange fnIsBlankIsWhatEscapeWidensWrong)) fnIsBlankIsWhatEscapeWidensCard

/-- THE TOLD AND TIED CARD OF 'zzlaws_fstab_b1.FnEachLineMatchesModel'. -/
def fnEachLineMatchesModelCard : Claim7 := { stood := { row := fnEachLineMatchesModelRow, standIns := [], harness := (true, "ac96254cd86bf86c29854788a4b083d898ee1c02404abac4dd1d24915bf32f5a"), looks := true }, told := true, laidByText := true, laidKinds := [.handle, .sentinel, .sentinel, .sentinel, .sentinel, .sentinel, .sentinel, .sentinel], laidTests := true, laidLooks := .later, goes := false }
def FnEachLineMatchesModelToldSaid : Prop := Claim7.holds Tryf.pinned (.plain (OpenSpec.ofChange fnEachLineMatchesModelSpec)) fnEachLineMatchesModelCard
/-- ITS FALSE NEIGHBOUR. Refute it at one input. -/
def FnEachLineMatchesModelToldWrongFalsely : Prop := Claim7.holds Tryf.pinned (.plain (OpenSpec.ofChange fnEachLineMatchesModelWrong)) fnEachLineMatchesModelCard

/-- THE TOLD AND TIED CARD OF 'zzlaws_fstab_b1.FnEachLineCutAtNewline'. -/
def fnEachLineCutAtNewlineCard : Claim7 := { stood := { row := fnEachLineCutAtNewlineRow, standIns := [], harness := (true, "ac96254cd86bf86c29854788a4b083d898ee1c02404abac4dd1d24915bf32f5a"), looks := true }, told := true, laidByText := true, laidKinds := [.handle, .sentinel, .sentinel, .sentinel, .sentinel, .sentinel, .sentinel, .sentinel], laidTests := true, laidLooks := .later, goes := false }
def FnEachLineCutAtNewlineToldSaid : Prop := Claim7.holds Tryf.pinned (.plain (OpenSpec.ofChange fnEachLineCutAtNewlineSpec)) fnEachLineCutAtNewlineCard
/-- ITS FALSE NEIGHBOUR. Refute it at one input. -/
def FnEachLineCutAtNewlineToldWrongFalsely : Prop := Claim7.holds Tryf.pinned (.plain (OpenSpec.ofChange fnEachLineCutAtNewlineWrong)) fnEachLineCutAtNewlineCard
end Rows
end Go.Proofs.Qxb6614934aFmt
