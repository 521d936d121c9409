/-
  No cell of these rows narrows 'for every input' (looked for: loops, veiled, ifaces, maps, wideKeys, modest, calm, conditions, laid).
  DERIVED. THE GIVEN ROWS OF THIS SEAT. 1 by the template 'for every input the law returns true; each argument reads behind the call as it read before'; 0 by the template 'total and deterministic' (their statements: Qxb6619012aTotals.lean).
  GIVEN WITH THE SEED: the statements are not yours to turn. If you find one false, say at which input.
  Laid BY PROGRAM, IN A SANDBOX (cutbox-rows.mjs): the forced cells as the released guide's own fill.sh prints them over the translation d4657e59659d29c9… (all of the seat's roots in one cut). By AI agents, Wed Nov 11 2026. No macro, syntax, notation, axiom, sorry.
-/
import Derived.Test.Qxb6619012aChecked
import GoSem.Claim
import GoSem.ClaimJoined
import GoSem.ClaimMapViews
import Derived.JoinedTies
import Derived.KernelRfl
namespace Go.Proofs.Qxb6619012a
/- THE CELL 'sum', in the pinned program and in every row, IS THE sha256 OF THE DUMP (.gsa) THAT Qxb6619012aProg.lean LOADS. Nothing in Lean hashes anything: it is a label: what it is worth is what the hold of that sum in a sandbox is worth. -/
noncomputable def Try.pinned : Pinned := { name := "qxb6619012a", sum := "d4657e59659d29c902c72fef1f4a8502e9520818c5972c40a23df2ee1712a556", checked := Try.checked }
namespace Rows
def none {H : Type} : Left H := { results := [], args := [] }

/-- 'zzlaws_root_b1.FnMaxSizeShiftsWithMaxMemory': WHATEVER THE INPUT: true; the input reads as it did. -/
def fnMaxSizeShiftsWithMaxMemorySpec : ChangeSpec := { name := "fnMaxSizeShiftsWithMaxMemory", fn := fun _ => fun
  | [d1, d2] => { results := [.lit (.bool true)], args := [d1, d2] }
  | _ => none }
def fnMaxSizeShiftsWithMaxMemoryRow : OpenClaim := { program := "qxb6619012a", sum := "d4657e59659d29c902c72fef1f4a8502e9520818c5972c40a23df2ee1712a556", func := "example.com/precede/precede/zzlaws_root_b1.FnMaxSizeShiftsWithMaxMemory", spec := "fnMaxSizeShiftsWithMaxMemory", apart := false }
def FnMaxSizeShiftsWithMaxMemorySaid : Prop := fnMaxSizeShiftsWithMaxMemoryRow.holds Try.pinned (OpenSpec.ofChange fnMaxSizeShiftsWithMaxMemorySpec)

/-- ITS FALSE NEIGHBOUR: 'it returns false'. Refute it at one input. -/
def fnMaxSizeShiftsWithMaxMemoryWrong : ChangeSpec := { name := "fnMaxSizeShiftsWithMaxMemory", fn := fun _ => fun
  | [d1, d2] => { results := [.lit (.bool false)], args := [d1, d2] }
  | _ => none }
def FnMaxSizeShiftsWithMaxMemoryWrongFalsely : Prop := fnMaxSizeShiftsWithMaxMemoryRow.holds Try.pinned (OpenSpec.ofChange fnMaxSizeShiftsWithMaxMemoryWrong)

end Rows
end Go.Proofs.Qxb6619012a
