/-
  No cell of these rows narrows 'for every input' (looked for: loops, veiled, ifaces, maps, wideKeys, modest, calm, conditions, laid).
  DERIVED. THE GIVEN ROWS OF THIS SEAT. 2 by the template 'for every input the law returns true; each argument reads behind the call as it read before'; 0 by the template 'total and deterministic' (their statements: Qxb6619172aFmtTotals.lean).
  GIVEN WITH THE SEED: the statements are not yours to turn. If you find one false, say at which input.
  Laid BY PROGRAM, IN A SANDBOX (cutbox-rows.mjs): the forced cells as the released guide's own fill.sh prints them over the translation 895cf0c1e3f39a35… (all of the seat's roots in one cut). By AI agents, Wed Nov 11 2026. No macro, syntax, notation, axiom, sorry.
-/
import Derived.Test.Qxb6619172aFmtChecked
import GoSem.Claim
import GoSem.ClaimJoined
import GoSem.ClaimMapViews
import Derived.JoinedTies
import Derived.KernelRfl
namespace Go.Proofs.Qxb6619172aFmt
/- THE CELL 'sum', in the pinned program and in every row, IS THE sha256 OF THE DUMP (.gsa) THAT Qxb6619172aFmtProg.lean LOADS. Nothing in Lean hashes anything: it is a label: what it is worth is what the hold of that sum in a sandbox is worth. -/
noncomputable def Tryf.pinned : Pinned := { name := "qxb6619172afmt", sum := "895cf0c1e3f39a3507d0eb00edad52d20e5a29d481a2fb32ff78b784efb2097b", checked := Tryf.checked }
namespace Rows
def none {H : Type} : Left H := { results := [], args := [] }

/-- 'zzlaws_mastodon_e1.FnParseVisibilityOneInsertionApart': WHATEVER THE INPUT: true; the input reads as it did. -/
def fnParseVisibilityOneInsertionApartSpec : ChangeSpec := { name := "fnParseVisibilityOneInsertionApart", fn := fun _ => fun
  | [d1, d2, d3] => { results := [.lit (.bool true)], args := [d1, d2, d3] }
  | _ => none }
def fnParseVisibilityOneInsertionApartRow : OpenClaim := { program := "qxb6619172afmt", sum := "895cf0c1e3f39a3507d0eb00edad52d20e5a29d481a2fb32ff78b784efb2097b", func := "example.com/taperwick/taperwick/zzlaws_mastodon_e1.FnParseVisibilityOneInsertionApart", spec := "fnParseVisibilityOneInsertionApart", stops := ["fmt.errorf"], inPlace := ["fmt.errorf"], apart := false }
/-- NO THEOREM (fmt's text is open here; it may be false): for the released tool's asking of the row's closed facts alone. THE STATEMENT IS 'FnParseVisibilityOneInsertionApartToldSaid' (Qxb6619172aFmtCards.lean). -/
def FnParseVisibilityOneInsertionApartFormAsk : Prop := fnParseVisibilityOneInsertionApartRow.holds Tryf.pinned (OpenSpec.ofChange fnParseVisibilityOneInsertionApartSpec)

/-- ITS FALSE NEIGHBOUR: 'it returns false'. Refute it at one input. -/
def fnParseVisibilityOneInsertionApartWrong : ChangeSpec := { name := "fnParseVisibilityOneInsertionApart", fn := fun _ => fun
  | [d1, d2, d3] => { results := [.lit (.bool false)], args := [d1, d2, d3] }
  | _ => none }
def FnParseVisibilityOneInsertionApartWrongFormAsk : Prop := fnParseVisibilityOneInsertionApartRow.holds Tryf.pinned (OpenSpec.ofChange fnParseVisibilityOneInsertionApartWrong)

/-- 'zzlaws_mastodon_e1.FnParseVisibilityOneSubstitutionApart': WHATEVER THE INPUT: true; the input reads as it did. -/
def fnParseVisibilityOneSubstitutionApartSpec : ChangeSpec := { name := "fnParseVisibilityOneSubstitutionApart", fn := fun _ => fun
  | [d1, d2, d3] => { results := [.lit (.bool true)], args := [d1, d2, d3] }
  | _ => none }
def fnParseVisibilityOneSubstitutionApartRow : OpenClaim := { program := "qxb6619172afmt", sum := "895cf0c1e3f39a3507d0eb00edad52d20e5a29d481a2fb32ff78b784efb2097b", func := "example.com/taperwick/taperwick/zzlaws_mastodon_e1.FnParseVisibilityOneSubstitutionApart", spec := "fnParseVisibilityOneSubstitutionApart", stops := ["fmt.errorf"], inPlace := ["fmt.errorf"], apart := false }
/-- NO THEOREM (fmt's text is open here; it may be false): for the released tool's asking of the row's closed facts alone. THE STATEMENT IS 'FnParseVisibilityOneSubstitutionApartToldSaid' (Qxb6619172aFmtCards.lean). -/
def FnParseVisibilityOneSubstitutionApartFormAsk : Prop := fnParseVisibilityOneSubstitutionApartRow.holds Tryf.pinned (OpenSpec.ofChange fnParseVisibilityOneSubstitutionApartSpec)

/-- ITS FALSE NEIGHBOUR: 'it returns false'. Refute it at one input. -/
def fnParseVisibilityOneSubstitutionApartWrong : ChangeSpec := { name := "fnParseVisibilityOneSubstitutionApart", fn := fun _ => fun
  | [d1, d2, d3] => { results := [.lit (.bool false)], args := [d1, d2, d3] }
  | _ => none }
def FnParseVisibilityOneSubstitutionApartWrongFormAsk : Prop := fnParseVisibilityOneSubstitutionApartRow.holds Tryf.pinned (OpenSpec.ofChange fnParseVisibilityOneSubstitutionApartWrong)

end Rows
end Go.Proofs.Qxb6619172aFmt
