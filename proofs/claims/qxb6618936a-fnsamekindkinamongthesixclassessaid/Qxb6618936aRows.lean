/-
  No cell of these rows narrows 'for every input' (looked for: loops, veiled, ifaces, maps, wideKeys, modest, calm, conditions, laid).
  DERIVED. THE GIVEN ROWS OF THIS SEAT. 2 by the template 'for every input the law returns true; each argument reads behind the call as it read before'; 0 by the template 'total and deterministic' (their statements: Qxb6618936aTotals.lean).
  GIVEN WITH THE SEED: the statements are not yours to turn. If you find one false, say at which input.
  Laid BY PROGRAM, IN A SANDBOX (cutbox-rows.mjs): the forced cells as the released guide's own fill.sh prints them over the translation d0ecc888c5eb12f5… (all of the seat's roots in one cut). By AI agents, Wed Nov 11 2026. No macro, syntax, notation, axiom, sorry.
-/
import Derived.Test.Qxb6618936aChecked
import GoSem.Claim
import GoSem.ClaimJoined
import GoSem.ClaimMapViews
import Derived.JoinedTies
import Derived.KernelRfl
namespace Go.Proofs.Qxb6618936a
/- THE CELL 'sum', in the pinned program and in every row, IS THE sha256 OF THE DUMP (.gsa) THAT Qxb6618936aProg.lean LOADS. Nothing in Lean hashes anything: it is a label: what it is worth is what the hold of that sum in a sandbox is worth. -/
noncomputable def Try.pinned : Pinned := { name := "qxb6618936a", sum := "d0ecc888c5eb12f58a7933a617451d92a4effc082f6af440264ccc2a9d9bbd31", checked := Try.checked }
namespace Rows
def none {H : Type} : Left H := { results := [], args := [] }

/-- 'zzlaws_root_b1.FnSameKindIsEquivalence': WHATEVER THE INPUT: true; the input reads as it did. -/
def fnSameKindIsEquivalenceSpec : ChangeSpec := { name := "fnSameKindIsEquivalence", fn := fun _ => fun
  | [d1, d2, d3, d4, d5, d6, d7, d8, d9, d10, d11] => { results := [.lit (.bool true)], args := [d1, d2, d3, d4, d5, d6, d7, d8, d9, d10, d11] }
  | _ => none }
def fnSameKindIsEquivalenceRow : OpenClaim := { program := "qxb6618936a", sum := "d0ecc888c5eb12f58a7933a617451d92a4effc082f6af440264ccc2a9d9bbd31", func := "example.com/typefit/typefit/zzlaws_root_b1.FnSameKindIsEquivalence", spec := "fnSameKindIsEquivalence", apart := false }
def FnSameKindIsEquivalenceSaid : Prop := fnSameKindIsEquivalenceRow.holds Try.pinned (OpenSpec.ofChange fnSameKindIsEquivalenceSpec)

/-- ITS FALSE NEIGHBOUR: 'it returns false'. Refute it at one input. -/
def fnSameKindIsEquivalenceWrong : ChangeSpec := { name := "fnSameKindIsEquivalence", fn := fun _ => fun
  | [d1, d2, d3, d4, d5, d6, d7, d8, d9, d10, d11] => { results := [.lit (.bool false)], args := [d1, d2, d3, d4, d5, d6, d7, d8, d9, d10, d11] }
  | _ => none }
def FnSameKindIsEquivalenceWrongFalsely : Prop := fnSameKindIsEquivalenceRow.holds Try.pinned (OpenSpec.ofChange fnSameKindIsEquivalenceWrong)

/-- 'zzlaws_root_b1.FnSameKindKinAmongTheSixClasses': WHATEVER THE INPUT: true; the input reads as it did. -/
def fnSameKindKinAmongTheSixClassesSpec : ChangeSpec := { name := "fnSameKindKinAmongTheSixClasses", fn := fun _ => fun
  | [d1, d2, d3, d4, d5] => { results := [.lit (.bool true)], args := [d1, d2, d3, d4, d5] }
  | _ => none }
def fnSameKindKinAmongTheSixClassesRow : OpenClaim := { program := "qxb6618936a", sum := "d0ecc888c5eb12f58a7933a617451d92a4effc082f6af440264ccc2a9d9bbd31", func := "example.com/typefit/typefit/zzlaws_root_b1.FnSameKindKinAmongTheSixClasses", spec := "fnSameKindKinAmongTheSixClasses", apart := false }
def FnSameKindKinAmongTheSixClassesSaid : Prop := fnSameKindKinAmongTheSixClassesRow.holds Try.pinned (OpenSpec.ofChange fnSameKindKinAmongTheSixClassesSpec)

/-- ITS FALSE NEIGHBOUR: 'it returns false'. Refute it at one input. -/
def fnSameKindKinAmongTheSixClassesWrong : ChangeSpec := { name := "fnSameKindKinAmongTheSixClasses", fn := fun _ => fun
  | [d1, d2, d3, d4, d5] => { results := [.lit (.bool false)], args := [d1, d2, d3, d4, d5] }
  | _ => none }
def FnSameKindKinAmongTheSixClassesWrongFalsely : Prop := fnSameKindKinAmongTheSixClassesRow.holds Try.pinned (OpenSpec.ofChange fnSameKindKinAmongTheSixClassesWrong)

end Rows
end Go.Proofs.Qxb6618936a
