/-
  The shelf's contracts on strings.Builder laid at this dump: copyCheck (33), String (22): the numbering, and the facts that the shelf asks, each by the kernel's evaluation.
-/
import Derived.Test.Qxb6614934aFmtRows
import Derived.Shelf.Strings.Builder1
namespace Go.Proofs.Qxb6614934aFmt
open Go.Shelf
set_option maxRecDepth 100000

/-- The shelf's numbers at this dump. -/
def ren : Ren := ⟨fun n => if n = 240 then 33 else if n = 276 then 41 else if n = 169 then 22 else n, fun n => if n = 37 then 43 else if n = 70 then 42 else if n = 72 then 45 else if n = 127 then 79 else if n = 164 then 62 else n, fun n => n⟩

theorem lays240 : Lays.n240 Tryf.prog ren := by
  constructor <;> intros <;> kernel_rfl
theorem lays169 : Lays.n169 Tryf.prog ren := by
  constructor <;> intros <;> kernel_rfl
theorem layX72 : Builder.X72 Tryf.prog ren := by
  constructor <;> kernel_rfl
theorem layX : Builder.Extra Tryf.prog ren := by
  refine { layX72 with t5 := by kernel_rfl, a5 := fun _ => by kernel_rfl, z5 := fun _ => by kernel_rfl, v5 := fun _ => by kernel_rfl, infoByte := by kernel_rfl, cellsByte := by kernel_rfl, sizeByte := by kernel_rfl, neB5 := by decide }

end Go.Proofs.Qxb6614934aFmt
