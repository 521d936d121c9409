/-
  ParseVisibility (7) and zzAnswerShaped (8).
-/
import Derived.Test.Qxb6619172aFmtFacts
import Derived.WalkKit
import Derived.WalkSpells
import Derived.WalkLawsBesides
import Derived.RowKit3
import Derived.Outline
namespace Go.Proofs.Qxb6619172aFmt
open Go.RowKit Go.Extern.Stop Go.Stop Go.Extern
set_option linter.unusedVariables false
attribute [local go_sem] call12 guard fmt0 fmt0r op9_113 op9_113w strict9 ptr35 elem35 isError35 ptr34 elem34 isError34

def reading (nm : List UInt8) : List (List UInt8) := [fmtB.data.toList, shape9, FmtStop.pack nm]

set_option maxHeartbeats 400000 in
theorem parse_bad (F : Interp) (nm : ByteArray) (w : World) (hF : F.answers w.tape) (h1 : (nm.toList == [112, 117, 98, 108, 105, 99]) = false) (h2 : (nm.toList == [117, 110, 108, 105, 115, 116, 101, 100]) = false) (h3 : (nm.toList == [112, 114, 105, 118, 97, 116, 101]) = false) :
    Calls Tryf.prog 7 #[.string nm] w fun e w' => e = .returned (.tuple #[.string ⟨#[]⟩, .iface 35 (.pointer (some ⟨w.heap.size + 1, 0, none⟩))]) ∧ Below w.heap.size w w' := by
  have hF' := answers_open hF
  go_enter Tryf.func7, Tryf.ntmps7
  go_wp2
  go_ret2
  exact ⟨rfl, (((Below.refl _ _).alloc (Nat.le_refl _) _).alloc (by simp) _).drew⟩

theorem parse_pub (nm : ByteArray) (w : World) (h1 : (nm.toList == [112, 117, 98, 108, 105, 99]) = true) :
    Calls Tryf.prog 7 #[.string nm] w fun e w' => e = .returned (.tuple #[.string nm, .nilIface]) ∧ w' = w := by
  go_enter Tryf.func7, Tryf.ntmps7
  go_wp2
  go_ret2
  exact ⟨rfl, rfl⟩

theorem parse_unl (nm : ByteArray) (w : World) (h1 : (nm.toList == [112, 117, 98, 108, 105, 99]) = false) (h2 : (nm.toList == [117, 110, 108, 105, 115, 116, 101, 100]) = true) :
    Calls Tryf.prog 7 #[.string nm] w fun e w' => e = .returned (.tuple #[.string nm, .nilIface]) ∧ w' = w := by
  go_enter Tryf.func7, Tryf.ntmps7
  go_wp2
  go_ret2
  exact ⟨rfl, rfl⟩

theorem parse_priv (nm : ByteArray) (w : World) (h1 : (nm.toList == [112, 117, 98, 108, 105, 99]) = false) (h2 : (nm.toList == [117, 110, 108, 105, 115, 116, 101, 100]) = false) (h3 : (nm.toList == [112, 114, 105, 118, 97, 116, 101]) = true) :
    Calls Tryf.prog 7 #[.string nm] w fun e w' => e = .returned (.tuple #[.string nm, .nilIface]) ∧ w' = w := by
  go_enter Tryf.func7, Tryf.ntmps7
  go_wp2
  go_ret2
  exact ⟨rfl, rfl⟩

/-- The three names. -/
def visB (l : List UInt8) : Bool := l == [112, 117, 98, 108, 105, 99] || l == [117, 110, 108, 105, 115, 116, 101, 100] || l == [112, 114, 105, 118, 97, 116, 101]

theorem parse_yes (nm : ByteArray) (w : World) (h : visB nm.toList = true) :
    Calls Tryf.prog 7 #[.string nm] w fun e w' => e = .returned (.tuple #[.string nm, .nilIface]) ∧ w' = w := by
  cases h1 : (nm.toList == [112, 117, 98, 108, 105, 99]) with
  | true => exact parse_pub nm w h1
  | false =>
    cases h2 : (nm.toList == [117, 110, 108, 105, 115, 116, 101, 100]) with
    | true => exact parse_unl nm w h1 h2
    | false =>
      refine parse_priv nm w h1 h2 ?_
      simpa [visB, h1, h2] using h

theorem parse_no (F : Interp) (nm : ByteArray) (w : World) (hF : F.answers w.tape) (h : visB nm.toList = false) :
    Calls Tryf.prog 7 #[.string nm] w fun e w' => e = .returned (.tuple #[.string ⟨#[]⟩, .iface 35 (.pointer (some ⟨w.heap.size + 1, 0, none⟩))]) ∧ Below w.heap.size w w' := by
  unfold visB at h
  rw [Bool.or_eq_false_iff, Bool.or_eq_false_iff] at h
  exact parse_bad F nm w hF h.1.1 h.1.2 h.2

theorem shaped_yes (nm : ByteArray) (w : World) :
    Calls Tryf.prog 8 #[.string nm, .string nm, .bool true] w fun e w' => e = .returned (.bool true) ∧ w' = w := by
  go_enter Tryf.func8, Tryf.ntmps8
  go_wp2
  go_ret
  exact ⟨by simp, rfl⟩

theorem shaped_no (nm : ByteArray) (w : World) :
    Calls Tryf.prog 8 #[.string nm, .string ⟨#[]⟩, .bool false] w fun e w' => e = .returned (.bool true) ∧ w' = w := by
  go_enter Tryf.func8, Tryf.ntmps8
  go_wp2
  go_ret
  exact ⟨rfl, rfl⟩

end Go.Proofs.Qxb6619172aFmt
