/-
  DERIVED. GIVEN WITH THE SEED: THE CARDS: each row of Qxb6619172aFmtRows.lean that lists a variable, with what it lists TIED to the program's text (the seventh form; the later family's looks); each row that meets fmt, with fmt's text TOLD by the authors' own Lean function (tested against real Go, not proved from fmt's source: count such statements apart). THE CARD IS WHAT COUNTS. Prove the row's statement (the work); the ties are given (Qxb6619172aFmtTie.lean); close each card by the builder's one call (the guide's Derived/Test/ToyasCard.lean, 'card_holds'). Laid BY PROGRAM, IN A SANDBOX (cutbox-door.mjs). By AI agents, Wed Nov 11 2026. No macro, syntax, notation, axiom, sorry.
-/
import Derived.Test.Qxb6619172aFmtRows
import GoSem.ClaimSeven
namespace Go.Proofs.Qxb6619172aFmt
namespace Rows

/-- THE TOLD CARD OF 'zzlaws_mastodon_e1.FnParseVisibilityOneInsertionApart'. -/
def fnParseVisibilityOneInsertionApartCard : Claim7 := { stood := { row := fnParseVisibilityOneInsertionApartRow, standIns := [], harness := (true, "75e15a7bdfd8f4ff4bfd9648747dd6ff537d6d18b0cc62ca2ab96bc2b36e5f04"), looks := false }, told := true, goes := false }
def FnParseVisibilityOneInsertionApartToldSaid : Prop := Claim7.holds Tryf.pinned (.plain (OpenSpec.ofChange fnParseVisibilityOneInsertionApartSpec)) fnParseVisibilityOneInsertionApartCard
/-- ITS FALSE NEIGHBOUR. Refute it at one input. -/
def FnParseVisibilityOneInsertionApartToldWrongFalsely : Prop := Claim7.holds Tryf.pinned (.plain (OpenSpec.ofChange fnParseVisibilityOneInsertionApartWrong)) fnParseVisibilityOneInsertionApartCard

/-- THE TOLD CARD OF 'zzlaws_mastodon_e1.FnParseVisibilityOneSubstitutionApart'. -/
def fnParseVisibilityOneSubstitutionApartCard : Claim7 := { stood := { row := fnParseVisibilityOneSubstitutionApartRow, standIns := [], harness := (true, "75e15a7bdfd8f4ff4bfd9648747dd6ff537d6d18b0cc62ca2ab96bc2b36e5f04"), looks := false }, told := true, goes := false }
def FnParseVisibilityOneSubstitutionApartToldSaid : Prop := Claim7.holds Tryf.pinned (.plain (OpenSpec.ofChange fnParseVisibilityOneSubstitutionApartSpec)) fnParseVisibilityOneSubstitutionApartCard
/-- ITS FALSE NEIGHBOUR. Refute it at one input. -/
def FnParseVisibilityOneSubstitutionApartToldWrongFalsely : Prop := Claim7.holds Tryf.pinned (.plain (OpenSpec.ofChange fnParseVisibilityOneSubstitutionApartWrong)) fnParseVisibilityOneSubstitutionApartCard
end Rows
end Go.Proofs.Qxb6619172aFmt
