/-
  The walk of FnSameKindKinAmongTheSixClasses (4).
-/
import Derived.Test.Qxb6618936aKind
import Derived.Outline
namespace Go.Proofs.Qxb6618936a
open Go.RowKit
set_option linter.unusedVariables false

theorem ZZkin_is (ba bb : Nat) (a b : Int) (v : Bool) (hv : kinB a b = v) (w : World) (ha : w.cell? ⟨ba, 1, none⟩ = some (.int .i64 a)) (hb : w.cell? ⟨bb, 1, none⟩ = some (.int .i64 b)) :
    Calls Try.prog 7 #[.pointer (some ⟨ba, 0, none⟩), .pointer (some ⟨bb, 0, none⟩)] w fun e w' => e = .returned (.bool v) ∧ ∃ n, w' = w.drewN n := by
  subst hv; exact ZZsameKind_any ba bb a b w ha hb

/-- Of the first k classes, how many are of one kind with class a. -/
def cnt (a : Int) : Nat → Nat
  | 0 => 0
  | k + 1 => cnt a k + if kinB a (k : Int) then 1 else 0
theorem cnt_le (a : Int) (k : Nat) : cnt a k ≤ k := by
  induction k with
  | zero => exact Nat.le_refl _
  | succ k ih => unfold cnt; split <;> omega
theorem cnt_yes (a : Int) (k : Nat) (h : kinB a (k : Int) = true) : cnt a (k + 1) = cnt a k + 1 := by
  rw [cnt, h]; rfl
theorem cnt_no (a : Int) (k : Nat) (h : kinB a (k : Int) = false) : cnt a (k + 1) = cnt a k := by
  rw [cnt, h]; rfl

/-- What the law expects. -/
def wantN (a : Int) : Nat := if 2 ≤ a ∧ a ≤ 4 then 3 else if 0 ≤ a ∧ a ≤ 5 then 1 else 0
theorem numB_out (a : Int) (h : a < 2 ∨ 4 < a) : numB a = false := by
  have h2 : (a == 2) = false := by simp; omega
  have h3 : (a == 3) = false := by simp; omega
  have h4 : (a == 4) = false := by simp; omega
  simp [numB, h2, h3, h4]
theorem kinB_out (a : Int) (k : Int) (h : a < 2 ∨ 4 < a) (hk : a ≠ k) : kinB a k = false := by
  have e : (a == k) = false := by simpa using hk
  simp [kinB, numB_out a h, e]
theorem cnt_six (a : Int) : cnt a 6 = wantN a := by
  by_cases h : 0 ≤ a ∧ a ≤ 5
  · have hc : a = 0 ∨ a = 1 ∨ a = 2 ∨ a = 3 ∨ a = 4 ∨ a = 5 := by omega
    rcases hc with rfl | rfl | rfl | rfl | rfl | rfl <;> decide
  · have hw : wantN a = 0 := by
      unfold wantN
      rw [if_neg (by omega), if_neg h]
    rw [hw]
    rw [cnt_no a 5 (kinB_out a _ (by omega) (by omega)), cnt_no a 4 (kinB_out a _ (by omega) (by omega)), cnt_no a 3 (kinB_out a _ (by omega) (by omega)),
      cnt_no a 2 (kinB_out a _ (by omega) (by omega)), cnt_no a 1 (kinB_out a _ (by omega) (by omega)), cnt_no a 0 (kinB_out a _ (by omega) (by omega))]
    rfl

theorem cell_kept {wr : World} {b : Nat} {v : Value} (o : Obj) (hz : b < wr.heap.size) (h : wr.cell? ⟨b, 1, none⟩ = some v) : (wr.alloc o).cell? ⟨b, 1, none⟩ = some v := by
  rw [World.cell?_alloc_past _ _ _ hz]; exact h
theorem cell_fresh (wr : World) (nm : ByteArray) (c bits : Int) (u t : Bool) : (wr.alloc (.cells #[.string nm, .int .i64 c, .int .i64 bits, .bool u, .bool t] 29)).cell? ⟨wr.heap.size, 1, none⟩ = some (.int .i64 c) := by
  rw [World.cell?_alloc_new]; rfl

set_option maxHeartbeats 400000 in
theorem kin_core (a0 : ByteArray) (a1 : Int) (a2 : Int) (a3 : Bool) (a4 : Bool) (h0 : a0.size ≤ 1048576) (w : World) :
    Calls Try.prog 4 #[.string a0, .int .i64 a1, .int .i64 a2, .bool a3, .bool a4] w fun e w' => e = .returned (.bool true) ∧ Grown w w' := by
  go_enter Try.func4, Try.ntmps4
  go_wp2_with (first | (go_at_call 8; go_in) | (go_at_call 6; refine (newBasic_any _ _ _ _ _ _).mono ?_; rintro e w' ⟨rfl, rfl⟩))
  go_loopw [12, 13] (fun n c wr => ∃ k : Nat, k ≤ 6 ∧ c = .int .i64 k ∧ n = .int .i64 (cnt a1 k) ∧ Grown w wr ∧ w.heap.size < wr.heap.size ∧ wr.cell? ⟨w.heap.size, 1, none⟩ = some (.int .i64 a1)) (fun _ c _ => 6 - (intOf c).toNat)
  case atStart => exact ⟨0, by omega, rfl, rfl, (Grown.refl _).alloc _ _, by simp, by simp [go_sem]⟩
  case round =>
    obtain ⟨k, hk, rfl, rfl, hG, hz, hA⟩ := hrel
    have hle := cnt_le a1 k
    by_cases hlt : k < 6
    · cases hkin : kinB a1 (k : Int) with
      | true =>
        have HC : Hid (cnt a1 (k + 1) = cnt a1 k + 1) := cnt_yes a1 k hkin
        go_wp2_with (go_at_call 6; refine (newBasic_any _ _ _ _ _ _).mono ?_; rintro e w' ⟨rfl, rfl⟩)
        refine (ZZkin_is _ _ a1 (k : Int) true hkin _ (by exact cell_kept _ hz hA) (by exact cell_fresh _ _ _ _ _ _)).mono ?_
        rintro e w' ⟨rfl, n, rfl⟩
        go_wp2
        go_roundw
        case rel => exact ⟨k + 1, by omega, by go_num, by rw [HC.out]; go_num, hG.alloc _ _, by simp; omega, cell_kept _ hz hA⟩
        case measure => simp [intOf]; omega
      | false =>
        have HC : Hid (cnt a1 (k + 1) = cnt a1 k) := cnt_no a1 k hkin
        go_wp2_with (go_at_call 6; refine (newBasic_any _ _ _ _ _ _).mono ?_; rintro e w' ⟨rfl, rfl⟩)
        refine (ZZkin_is _ _ a1 (k : Int) false hkin _ (by exact cell_kept _ hz hA) (by exact cell_fresh _ _ _ _ _ _)).mono ?_
        rintro e w' ⟨rfl, n, rfl⟩
        go_wp2
        go_roundw
        case rel => exact ⟨k + 1, by omega, by go_num, by rw [HC.out], hG.alloc _ _, by simp; omega, cell_kept _ hz hA⟩
        case measure => simp [intOf]; omega
    · obtain rfl : k = 6 := by omega
      have h6 := cnt_six a1
      rw [h6]
      clear hle h6 hlt hk
      by_cases c1 : 2 ≤ a1 ∧ a1 ≤ 4
      · have e : wantN a1 = 3 := by unfold wantN; rw [if_pos c1]
        rw [e]
        obtain ⟨c2, c3⟩ := c1
        clear e
        go_wp2
        go_ret
        exact ⟨rfl, hG⟩
      · by_cases c2 : 0 ≤ a1 ∧ a1 ≤ 5
        · have e : wantN a1 = 1 := by unfold wantN; rw [if_neg c1, if_pos c2]
          rw [e]
          clear e
          by_cases c3 : 2 ≤ a1
          · obtain ⟨c4, c5⟩ := c2
            have c6 : 4 < a1 := by omega
            clear c1
            go_wp2
            go_ret
            exact ⟨rfl, hG⟩
          · obtain ⟨c4, c5⟩ := c2
            clear c1
            go_wp2
            go_ret
            exact ⟨rfl, hG⟩
        · have e : wantN a1 = 0 := by unfold wantN; rw [if_neg c1, if_neg c2]
          rw [e]
          clear e
          by_cases c3 : a1 < 0
          · clear c1 c2
            go_wp2
            go_ret
            exact ⟨rfl, hG⟩
          · have c4 : 5 < a1 := by omega
            clear c1 c2
            go_wp2
            go_ret
            exact ⟨rfl, hG⟩

theorem kin_any (a0 : ByteArray) (a1 : Int) (a2 : Int) (a3 : Bool) (a4 : Bool) (w0 : a0.size ≤ maxLen) (w : World) :
    Calls Try.prog 4 #[.string a0, .int .i64 a1, .int .i64 a2, .bool a3, .bool a4] w fun e w' => e = .returned (.bool true) ∧ Grown w w' := by
  unfold maxLen at w0
  by_cases h0 : a0.size ≤ 1048576
  · exact kin_core a0 a1 a2 a3 a4 h0 w
  · go_enter Try.func4, Try.ntmps4
    go_wp2
    go_ret
    exact ⟨rfl, Grown.refl _⟩

end Go.Proofs.Qxb6618936a
