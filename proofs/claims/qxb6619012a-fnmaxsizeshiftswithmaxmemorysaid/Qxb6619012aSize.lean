/-
  The callees' contracts of seat b6619012a: ExpressionMemory (6), MaxSize (4), msShifted (7), msAgree (5).
-/
import Derived.Test.Qxb6619012aRows
import Derived.WalkKit
import Derived.WalkSpells
import Derived.Laws.Pointers
import Derived.Deep.QuietTactic
import Derived.BigQuiet
import Derived.Deep.RegionWith
import Derived.RowKit3
import Derived.Outline
namespace Go.Proofs.Qxb6619012a
open Go.RowKit
set_option linter.unusedVariables false

theorem expr_any (b : Nat) (w : World) (h : w.cell? ⟨b, 1, none⟩ = some (.pointer none)) :
    Calls Try.prog 6 #[.pointer (some ⟨b, 0, none⟩)] w fun e w' => e = .returned (.int .i64 0) ∧ w' = w := by
  go_enter Try.func6, Try.ntmps6
  go_wp2
  go_ret
  exact ⟨rfl, rfl⟩

theorem max_nil (w : World) : Calls Try.prog 4 #[.pointer none] w fun e w' => e = .returned (.int .i64 (-1)) ∧ w' = w := by
  go_enter Try.func4, Try.ntmps4
  go_wp2
  go_ret
  exact ⟨rfl, rfl⟩

theorem max_low (b : Nat) (a : Int) (w : World) (h0 : w.cell? ⟨b, 0, none⟩ = some (.int .i64 a)) (ha : a ≤ 0) :
    Calls Try.prog 4 #[.pointer (some ⟨b, 0, none⟩)] w fun e w' => e = .returned (.int .i64 9223372036854775807) ∧ ∃ n, w' = w.drewN n := by
  go_enter Try.func4, Try.ntmps4
  go_wp2
  go_ret
  exact ⟨rfl, 0, rfl⟩

theorem max_mid (b : Nat) (a : Int) (w : World) (h0 : w.cell? ⟨b, 0, none⟩ = some (.int .i64 a)) (h1 : w.cell? ⟨b, 1, none⟩ = some (.pointer none)) (ha : 0 < a) (hb : a < 65536) :
    Calls Try.prog 4 #[.pointer (some ⟨b, 0, none⟩)] w fun e w' => e = .returned (.int .i64 (-1)) ∧ ∃ n, w' = w.drewN n := by
  go_enter Try.func4, Try.ntmps4
  go_wp2
  go_quiet ((go_at_call 6; exact Calls.quiet_of_same (expr_any b _ (by simpa using h1))))
  go_wp2
  go_ret
  exact ⟨rfl, _, rfl⟩

theorem max_high (b : Nat) (a : Int) (w : World) (h0 : w.cell? ⟨b, 0, none⟩ = some (.int .i64 a)) (h1 : w.cell? ⟨b, 1, none⟩ = some (.pointer none)) (ha : 65536 ≤ a) (hb : a ≤ 9223372036854775807) :
    Calls Try.prog 4 #[.pointer (some ⟨b, 0, none⟩)] w fun e w' => e = .returned (.int .i64 (a - 65536)) ∧ ∃ n, w' = w.drewN n := by
  have ha0 : 0 < a := by omega
  go_enter Try.func4, Try.ntmps4
  go_wp2
  go_quiet ((go_at_call 6; exact Calls.quiet_of_same (expr_any b _ (by simpa using h1))))
  go_wp2
  generalize hw1 : w.drewN nq = w1
  have g0 : w1.cell? ⟨b, 0, none⟩ = some (.int .i64 a) := by rw [← hw1]; exact h0
  have g1 : w1.cell? ⟨b, 1, none⟩ = some (.pointer none) := by rw [← hw1]; exact h1
  have HW : Hid (w.drewN nq = w1) := hw1
  clear hw1 h0 h1
  revert HW
  revert nq
  intro n1 HW
  go_quiet ((go_at_call 6; exact Calls.quiet_of_same (expr_any b _ (by simpa using g1))))
  go_wp2
  go_ret
  exact ⟨rfl, n1 + nq, by rw [← HW.out, World.drewN_drewN]⟩

theorem shift_any (s f t : Int) (w : World) (hs : 0 ≤ s) (hs1 : s ≤ 9223372036854775807) (hf : 0 < f) (hf1 : f ≤ 9223372036854775807) (ht : 0 < t) (ht1 : t ≤ 9223372036854775807) (hv : t - f + s ≤ 9223372036854775807) :
    Calls Try.prog 7 #[.int .i64 s, .int .i64 f, .int .i64 t] w fun e w' => e = .returned (.int .i64 (if t - f + s < 0 then -1 else t - f + s)) ∧ w' = w := by
  by_cases h : t - f + s < 0
  · rw [if_pos h]
    go_enter Try.func7, Try.ntmps7
    go_wp2
    go_ret
    exact ⟨rfl, rfl⟩
  · rw [if_neg h]
    go_enter Try.func7, Try.ntmps7
    go_wp2
    go_ret
    exact ⟨rfl, rfl⟩

end Go.Proofs.Qxb6619012a
