/-
  The walk of FnMaxSizeShiftsWithMaxMemory (3).
-/
import Derived.Test.Qxb6619012aAgree
namespace Go.Proofs.Qxb6619012a
open Go.RowKit
set_option linter.unusedVariables false

theorem law_any (a b : Int) (w : World) (ha : a ≤ 9223372036854775807) (hb : b ≤ 9223372036854775807) :
    Calls Try.prog 3 #[.int .i64 a, .int .i64 b] w fun e w' => e = .returned (.bool true) ∧ Grown w w' := by
  go_enter Try.func3, Try.ntmps3
  go_wp2_with fail
  refine (max_nil _).mono ?_
  rintro e w' ⟨rfl, rfl⟩
  go_wp2_with fail
  generalize hW : ((w'.alloc (Obj.cells #[Value.int IntKind.i64 a, Value.pointer none, Value.int IntKind.i64 0, Value.int IntKind.i64 0, Value.int IntKind.i64 0, Value.bool false] 26)).alloc (Obj.cells #[Value.int IntKind.i64 b, Value.pointer none, Value.int IntKind.i64 0, Value.int IntKind.i64 0, Value.int IntKind.i64 0, Value.bool false] 26)) = W
  have cA : W.cell? ⟨w'.heap.size, 0, none⟩ = some (.int .i64 a) := by rw [← hW]; simp [go_sem]
  have cA1 : W.cell? ⟨w'.heap.size, 1, none⟩ = some (.pointer none) := by rw [← hW]; simp [go_sem]
  have cB : W.cell? ⟨w'.heap.size + 1, 0, none⟩ = some (.int .i64 b) := by rw [← hW]; simp [go_sem]
  have cB1 : W.cell? ⟨w'.heap.size + 1, 1, none⟩ = some (.pointer none) := by rw [← hW]; simp [go_sem]
  have hG : Grown w' W := by rw [← hW]; exact ((Grown.refl _).alloc _ _).alloc _ _
  clear hW
  refine (max_any _ a _ (by exact cA) (by exact cA1) ha).mono ?_
  rintro e w1 ⟨rfl, n1, rfl⟩
  go_wp2_with fail
  refine (max_any _ b _ (by exact cB) (by exact cB1) hb).mono ?_
  rintro e w2 ⟨rfl, n2, rfl⟩
  go_wp2_with fail
  refine (agree_any a b _ ha hb).mono ?_
  rintro e w3 ⟨rfl, rfl⟩
  go_wp2
  go_ret
  exact ⟨rfl, hG⟩

end Go.Proofs.Qxb6619012a
