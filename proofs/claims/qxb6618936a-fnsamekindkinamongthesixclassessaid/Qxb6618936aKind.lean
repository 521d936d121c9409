/-
  The callees' contracts of seat b6618936a: ZZnewBasic (6), isNumeric (10), sameKind (9), ZZsameKind (7), the two length bounds (5, 8).
-/
import Derived.Test.Qxb6618936aRows
import Derived.WalkKit
import Derived.WalkSpells
import Derived.Laws.Pointers
import Derived.Deep.QuietTactic
import Derived.BigQuiet
import Derived.Deep.RegionWith
import Derived.RowKit3
namespace Go.Proofs.Qxb6618936a
open Go.RowKit
set_option linter.unusedVariables false

/-- isNumeric on the class. -/
def numB (c : Int) : Bool := c == 2 || c == 3 || c == 4
/-- sameKind on the two classes. -/
def kinB (a b : Int) : Bool := a == b || (numB a && numB b)

theorem isNumeric_any (b : Nat) (c : Int) (w : World) (h : w.cell? ⟨b, 1, none⟩ = some (.int .i64 c)) :
    Calls Try.prog 10 #[.pointer (some ⟨b, 0, none⟩)] w fun e w' => e = .returned (.bool (numB c)) ∧ w' = w := by
  by_cases h2 : c = 2
  · subst h2
    go_enter Try.func10, Try.ntmps10
    go_wp2
    go_ret
    exact ⟨rfl, rfl⟩
  by_cases h3 : c = 3
  · subst h3
    go_enter Try.func10, Try.ntmps10
    go_wp2
    go_ret
    exact ⟨rfl, rfl⟩
  by_cases h4 : c = 4
  · subst h4
    go_enter Try.func10, Try.ntmps10
    go_wp2
    go_ret
    exact ⟨rfl, rfl⟩
  have e2 : (c == 2) = false := by simpa using h2
  have e3 : (c == 3) = false := by simpa using h3
  have e4 : (c == 4) = false := by simpa using h4
  have en : numB c = false := by simp [numB, e2, e3, e4]
  rw [en]
  clear en h2 h3 h4
  go_enter Try.func10, Try.ntmps10
  go_wp2
  go_ret
  exact ⟨rfl, rfl⟩

theorem newBasic_any (nm : ByteArray) (c bits : Int) (u t : Bool) (w : World) :
    Calls Try.prog 6 #[.string nm, .int .i64 c, .int .i64 bits, .bool u, .bool t] w fun e w' =>
      e = .returned (.pointer (some ⟨w.heap.size, 0, none⟩)) ∧ w' = w.alloc (.cells #[.string nm, .int .i64 c, .int .i64 bits, .bool u, .bool t] 29) := by
  go_enter Try.func6, Try.ntmps6
  go_wp2
  go_ret
  exact ⟨rfl, rfl⟩

theorem numB_is (b : Nat) (c : Int) (v : Bool) (hv : numB c = v) (w : World) (h : w.cell? ⟨b, 1, none⟩ = some (.int .i64 c)) :
    Calls Try.prog 10 #[.pointer (some ⟨b, 0, none⟩)] w fun e w' => e = .returned (.bool v) ∧ w' = w := by
  subst hv; exact isNumeric_any b c w h

theorem sameKind_any (ba bb : Nat) (a b : Int) (w : World) (ha : w.cell? ⟨ba, 1, none⟩ = some (.int .i64 a)) (hb : w.cell? ⟨bb, 1, none⟩ = some (.int .i64 b)) :
    Calls Try.prog 9 #[.pointer (some ⟨ba, 0, none⟩), .pointer (some ⟨bb, 0, none⟩)] w fun e w' => e = .returned (.bool (kinB a b)) ∧ ∃ n, w' = w.drewN n := by
  cases hab : (a == b) with
  | true =>
    have ek : kinB a b = true := by simp [kinB, hab]
    rw [ek]; clear ek
    go_enter Try.func9, Try.ntmps9
    go_wp2
    go_quiet (fail)
    go_wp2
    go_ret
    exact ⟨rfl, _, rfl⟩
  | false =>
    cases hna : numB a with
    | false =>
      have ek : kinB a b = false := by simp [kinB, hab, hna]
      rw [ek]; clear ek
      have H1 := fun (w : World) => numB_is ba a false hna w
      clear hna
      go_enter Try.func9, Try.ntmps9
      go_wp2
      go_quiet ((go_at_call 10; exact Calls.quiet_of_same (H1 _ (by simpa using ha))))
      go_wp2
      go_ret
      exact ⟨rfl, _, rfl⟩
    | true =>
      have ek : kinB a b = numB b := by simp [kinB, hab, hna]
      rw [ek]; clear ek
      have H1 := fun (w : World) => numB_is ba a true hna w
      have H2 := fun (w : World) => isNumeric_any bb b w
      clear hna
      go_enter Try.func9, Try.ntmps9
      go_wp2
      go_quiet ((first | (go_at_call_of 10 (Value.pointer (some ⟨ba, 0, none⟩)); exact Calls.quiet_of_same (H1 _ (by simpa using ha))) | (go_at_call_of 10 (Value.pointer (some ⟨bb, 0, none⟩)); exact Calls.quiet_of_same (H2 _ (by simpa using hb)))))
      go_wp2
      go_ret
      exact ⟨rfl, _, rfl⟩

theorem ZZsameKind_any (ba bb : Nat) (a b : Int) (w : World) (ha : w.cell? ⟨ba, 1, none⟩ = some (.int .i64 a)) (hb : w.cell? ⟨bb, 1, none⟩ = some (.int .i64 b)) :
    Calls Try.prog 7 #[.pointer (some ⟨ba, 0, none⟩), .pointer (some ⟨bb, 0, none⟩)] w fun e w' => e = .returned (.bool (kinB a b)) ∧ ∃ n, w' = w.drewN n := by
  go_enter Try.func7, Try.ntmps7
  go_wp2_with (go_at_call 9; refine (sameKind_any ba bb a b _ ha hb).mono ?_; rintro e w' ⟨rfl, n, rfl⟩)
  go_ret
  exact ⟨rfl, _, rfl⟩

/-- The length bounds. -/
def len2B (m n : Nat) : Bool := !decide (1048576 < m) && !decide (1048576 < n) && !decide (1048576 < m + n)

end Go.Proofs.Qxb6618936a
