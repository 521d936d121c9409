/-
  The walk of FnSameKindIsEquivalence (3).
-/
import Derived.Test.Qxb6618936aKind
import Derived.Outline
namespace Go.Proofs.Qxb6618936a
open Go.RowKit
set_option linter.unusedVariables false

theorem numB_eq {a b : Int} (h : (a == b) = true) : numB a = numB b := by
  have : a = b := by simpa using h
  rw [this]
theorem kinB_refl (a : Int) : kinB a a = true := by simp [kinB]
theorem kinB_symm (a b : Int) : kinB b a = kinB a b := by
  unfold kinB
  rw [Bool.beq_comm, Bool.and_comm]
theorem kinB_trans (a b c : Int) (h1 : kinB a b = true) (h2 : kinB b c = true) : kinB a c = true := by
  unfold kinB at *
  by_cases e1 : a = b
  · subst e1; exact h2
  by_cases e2 : b = c
  · subst e2; exact h1
  simp [e1, e2] at h1 h2
  simp [h1.1, h2.2]

theorem ZZsame_is (ba bb : Nat) (a b : Int) (v : Bool) (hv : kinB a b = v) (w : World) (ha : w.cell? ⟨ba, 1, none⟩ = some (.int .i64 a)) (hb : w.cell? ⟨bb, 1, none⟩ = some (.int .i64 b)) :
    Calls Try.prog 7 #[.pointer (some ⟨ba, 0, none⟩), .pointer (some ⟨bb, 0, none⟩)] w fun e w' => e = .returned (.bool v) ∧ ∃ n, w' = w.drewN n := by
  subst hv; exact ZZsameKind_any ba bb a b w ha hb

set_option maxHeartbeats 400000 in
theorem equiv_core (a0 : ByteArray) (a1 : Int) (a2 : Int) (a3 : Bool) (a4 : Bool) (a5 : ByteArray) (a6 : Int) (a7 : Int) (a8 : Bool) (a9 : Bool) (a10 : Int) (w : World)
    (h0 : a0.size ≤ 1048576) (h5 : a5.size ≤ 1048576) (h05 : a0.size + a5.size ≤ 1048576) (ab ac bc : Bool)
    (hab : kinB a1 a6 = ab) (hac : kinB a1 a10 = ac) (hbc : kinB a6 a10 = bc) (ht : ((ac && bc && !ab) || (ab && bc && !ac) || (ab && ac && !bc)) = false) :
    Calls Try.prog 3 #[.string a0, .int .i64 a1, .int .i64 a2, .bool a3, .bool a4, .string a5, .int .i64 a6, .int .i64 a7, .bool a8, .bool a9, .int .i64 a10] w fun e w' => e = .returned (.bool true) ∧ Grown w w' := by
  have hba : kinB a6 a1 = ab := by rw [kinB_symm]; exact hab
  have hca : kinB a10 a1 = ac := by rw [kinB_symm]; exact hac
  have hcb : kinB a10 a6 = bc := by rw [kinB_symm]; exact hbc
  have haa := kinB_refl a1
  have hbb := kinB_refl a6
  have hcc := kinB_refl a10
  go_enter Try.func3, Try.ntmps3
  go_wp2_with (first | (go_at_call 5; go_in) | (go_at_call 6; refine (newBasic_any _ _ _ _ _ _).mono ?_; rintro e w' ⟨rfl, rfl⟩))
  generalize hW : (((w.alloc (Obj.cells #[Value.string a0, Value.int IntKind.i64 a1, Value.int IntKind.i64 a2, Value.bool a3, Value.bool a4] 29)).alloc (Obj.cells #[Value.string a5, Value.int IntKind.i64 a6, Value.int IntKind.i64 a7, Value.bool a8, Value.bool a9] 29)).alloc (Obj.cells #[Value.string { data := #[] }, Value.int IntKind.i64 a10, Value.int IntKind.i64 0, Value.bool false, Value.bool false] 29)) = W
  have cA : W.cell? ⟨w.heap.size, 1, none⟩ = some (.int .i64 a1) := by rw [← hW]; simp [go_sem]
  have cB : W.cell? ⟨w.heap.size + 1, 1, none⟩ = some (.int .i64 a6) := by rw [← hW]; simp [go_sem]
  have cC : W.cell? ⟨w.heap.size + 1 + 1, 1, none⟩ = some (.int .i64 a10) := by rw [← hW]; simp [go_sem]
  have hG : Grown w W := by rw [← hW]; exact (((Grown.refl _).alloc _ _).alloc _ _).alloc _ _
  clear hW
  refine (ZZsame_is _ _ a1 a6 ab hab _ (by exact cA) (by exact cB)).mono ?_
  rintro e w1 ⟨rfl, n1, rfl⟩
  go_wp2_with fail
  refine (ZZsame_is _ _ a6 a1 ab hba _ (by exact cB) (by exact cA)).mono ?_
  rintro e w2 ⟨rfl, n2, rfl⟩
  go_wp2_with fail
  refine (ZZsame_is _ _ a1 a10 ac hac _ (by exact cA) (by exact cC)).mono ?_
  rintro e w3 ⟨rfl, n3, rfl⟩
  go_wp2_with fail
  refine (ZZsame_is _ _ a10 a1 ac hca _ (by exact cC) (by exact cA)).mono ?_
  rintro e w4 ⟨rfl, n4, rfl⟩
  go_wp2_with fail
  refine (ZZsame_is _ _ a6 a10 bc hbc _ (by exact cB) (by exact cC)).mono ?_
  rintro e w5 ⟨rfl, n5, rfl⟩
  go_wp2_with fail
  refine (ZZsame_is _ _ a10 a6 bc hcb _ (by exact cC) (by exact cB)).mono ?_
  rintro e w6 ⟨rfl, n6, rfl⟩
  go_wp2_with fail
  refine (ZZsame_is _ _ a1 a1 true haa _ (by exact cA) (by exact cA)).mono ?_
  rintro e w7 ⟨rfl, n7, rfl⟩
  go_wp2_with fail
  refine (ZZsame_is _ _ a6 a6 true hbb _ (by exact cB) (by exact cB)).mono ?_
  rintro e w8 ⟨rfl, n8, rfl⟩
  go_wp2_with fail
  refine (ZZsame_is _ _ a10 a10 true hcc _ (by exact cC) (by exact cC)).mono ?_
  rintro e w9 ⟨rfl, n9, rfl⟩
  clear hab hba hac hca hbc hcb haa hbb hcc
  cases ab <;> cases ac <;> cases bc <;> first
    | (exact absurd ht (by decide))
    | (clear ht; go_wp2; go_ret; exact ⟨rfl, hG⟩)

theorem equiv_any (a0 : ByteArray) (a1 : Int) (a2 : Int) (a3 : Bool) (a4 : Bool) (a5 : ByteArray) (a6 : Int) (a7 : Int) (a8 : Bool) (a9 : Bool) (a10 : Int) (w0 : a0.size ≤ maxLen) (w5 : a5.size ≤ maxLen) (w : World) :
    Calls Try.prog 3 #[.string a0, .int .i64 a1, .int .i64 a2, .bool a3, .bool a4, .string a5, .int .i64 a6, .int .i64 a7, .bool a8, .bool a9, .int .i64 a10] w fun e w' => e = .returned (.bool true) ∧ Grown w w' := by
  unfold maxLen at w0 w5
  by_cases h0 : a0.size ≤ 1048576
  · by_cases h5 : a5.size ≤ 1048576
    · by_cases h05 : a0.size + a5.size ≤ 1048576
      · have t1 := kinB_trans a1 a10 a6
        have t2 := kinB_trans a1 a6 a10
        have t3 := kinB_trans a6 a1 a10
        rw [kinB_symm a6 a10] at t1
        rw [kinB_symm a1 a6] at t3
        refine equiv_core a0 a1 a2 a3 a4 a5 a6 a7 a8 a9 a10 w h0 h5 h05 _ _ _ rfl rfl rfl ?_
        revert t1 t2 t3
        cases kinB a1 a6 <;> cases kinB a1 a10 <;> cases kinB a6 a10 <;> simp
      · go_enter Try.func3, Try.ntmps3
        go_wp2
        go_ret
        exact ⟨rfl, Grown.refl _⟩
    · go_enter Try.func3, Try.ntmps3
      go_wp2
      go_ret
      exact ⟨rfl, Grown.refl _⟩
  · go_enter Try.func3, Try.ntmps3
    go_wp2
    go_ret
    exact ⟨rfl, Grown.refl _⟩

end Go.Proofs.Qxb6618936a
