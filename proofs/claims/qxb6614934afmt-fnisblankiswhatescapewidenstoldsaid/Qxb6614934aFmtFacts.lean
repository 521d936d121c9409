/-
  The closed facts for the walk over the stopped fmt.Sprintf (function 32), after the kit's own print for such dumps: each by the kernel's evaluation. And the five texts that fmt is told to give.
-/
import Derived.Test.Qxb6614934aFmtRows
import Derived.Stop.CallBack
import Derived.Stop.IfaceNil
import Derived.Stop.Texts
import Derived.Stop.JoinedTold
import GoSem.ClaimData
namespace Go.Proofs.Qxb6614934aFmt
open Go.Extern.Stop Go.Stop Go.Extern Go.Kit

theorem call32 (args : Array Value) (w : World) : (callFunc 32 args).run Tryf.prog w = ((FmtStop.sprintf #[9, 76] #[9] args).run Tryf.prog w).andThen fun v w' => .ok (.value v) w' :=
  run_callFunc_extern Tryf.func32 (by kernel_rfl) (by kernel_rfl) (by kernel_rfl) (by kernel_rfl) args w

theorem guard (name : String) (w : World) : (FmtStop.guard name).run Tryf.prog w = .ok () w := by kernel_rfl
theorem fmt0 : FmtStop.printed? ⟨#[92, 37, 48, 51, 111]⟩ 1 = some [(0, 111, false)] := by kernel_rfl
theorem fmt0r (w : World) : (FmtDoors.printed ⟨#[92, 37, 48, 51, 111]⟩ 1).run Tryf.prog w = .ok [(0, 111, false)] w := by kernel_rfl
theorem name5 : Tryf.prog.typeName? 3 5 = some "uint8" := by kernel_rfl
def shape5 : List UInt8 := [6, 5, 0, 0, 0, 0, 0, 0, 0, 117, 105, 110, 116, 56]
theorem op5_111 (name : String) (x : Int) (w : World) : (FmtStop.operand name false 111 false (.iface 5 (.int .u8 x))).run Tryf.prog w = .ok (shape5, Go.Extern.Stop.digits 8 (x % 2 ^ 64).toNat) w := by kernel_rfl
theorem strict5 (name : String) (x : Int) (w : World) : (FmtStop.strict name (.iface 5 (.int .u8 x))).run Tryf.prog w = .ok (shape5, Go.Extern.Stop.digits 8 (x % 2 ^ 64).toNat) w := by kernel_rfl

/-- What fmt is asked at the byte n. -/
def rd (n : Int) : List (List UInt8) := [[92, 37, 48, 51, 111], shape5, Go.Extern.Stop.digits 8 (n % 18446744073709551616).toNat]
theorem text_32 : FmtText.text "fmt.Sprintf" (rd 32) = some [92, 48, 52, 48] := by kernel_rfl
theorem text_9 : FmtText.text "fmt.Sprintf" (rd 9) = some [92, 48, 49, 49] := by kernel_rfl
theorem text_10 : FmtText.text "fmt.Sprintf" (rd 10) = some [92, 48, 49, 50] := by kernel_rfl
theorem text_13 : FmtText.text "fmt.Sprintf" (rd 13) = some [92, 48, 49, 53] := by kernel_rfl
theorem text_92 : FmtText.text "fmt.Sprintf" (rd 92) = some [92, 49, 51, 52] := by kernel_rfl

/-- A byte that escape writes as an octal escape. -/
def special (c : UInt8) : Bool := c == 32 || c == 9 || c == 10 || c == 13 || c == 92
/-- What escape writes for a byte. -/
def escB (c : UInt8) : List UInt8 := if c = 32 then [92, 48, 52, 48] else if c = 9 then [92, 48, 49, 49] else if c = 10 then [92, 48, 49, 50] else if c = 13 then [92, 48, 49, 53] else if c = 92 then [92, 49, 51, 52] else [c]

theorem special_cases {c : UInt8} (h : special c = true) : c = 32 ∨ c = 9 ∨ c = 10 ∨ c = 13 ∨ c = 92 := by
  unfold special at h
  simp only [Bool.or_eq_true, beq_iff_eq] at h
  rcases h with (((h | h) | h) | h) | h
  · exact Or.inl h
  · exact Or.inr (Or.inl h)
  · exact Or.inr (Or.inr (Or.inl h))
  · exact Or.inr (Or.inr (Or.inr (Or.inl h)))
  · exact Or.inr (Or.inr (Or.inr (Or.inr h)))

theorem told_esc (F : Interp) (c : UInt8) (h : special c = true) : (FmtStop.textOf (F.told "fmt.Sprintf" (rd (c.toNat : Int)) 0)).data.toList = escB c := by
  rw [textOf_list]
  rcases special_cases h with rfl | rfl | rfl | rfl | rfl
  · exact told_string F text_32 (by decide)
  · exact told_string F text_9 (by decide)
  · exact told_string F text_10 (by decide)
  · exact told_string F text_13 (by decide)
  · exact told_string F text_92 (by decide)

end Go.Proofs.Qxb6614934aFmt
