/-
  isBlank (14), ZZIsBlank (8) and the walk of FnIsBlankIsWhatEscapeWidens (3), fmt's text told.
-/
import Derived.Test.Qxb6614934aFmtEscape
namespace Go.Proofs.Qxb6614934aFmt
open Go.RowKit Go.Extern.Stop Go.Stop Go.Extern Go.Kit
set_option linter.unusedVariables false
set_option maxRecDepth 100000

def blankB (c : UInt8) : Bool := c == 32 || c == 9
def otherB (c : UInt8) : Bool := c == 10 || c == 13 || c == 92
/-- How many blanks; how many of the other three. -/
def bl (l : List UInt8) : Nat := l.countP blankB
def ot (l : List UInt8) : Nat := l.countP otherB

/-! ### The plain laws -/
theorem bl_le (l : List UInt8) : bl l ≤ l.length := List.countP_le_length
theorem ot_le (l : List UInt8) : ot l ≤ l.length := List.countP_le_length
theorem bl_yes (l : List UInt8) (c : UInt8) (h : blankB c = true) : bl (l ++ [c]) = bl l + 1 := by simp [bl, h]
theorem bl_no (l : List UInt8) (c : UInt8) (h : blankB c = false) : bl (l ++ [c]) = bl l := by simp [bl, h]
theorem ot_yes (l : List UInt8) (c : UInt8) (h : otherB c = true) : ot (l ++ [c]) = ot l + 1 := by simp [ot, h]
theorem ot_no (l : List UInt8) (c : UInt8) (h : otherB c = false) : ot (l ++ [c]) = ot l := by simp [ot, h]
theorem plain_blank {c : UInt8} (h : special c = false) : blankB c = false ∧ otherB c = false := by
  unfold special at h
  simp only [Bool.or_eq_false_iff] at h
  obtain ⟨⟨⟨⟨h1, h2⟩, h3⟩, h4⟩, h5⟩ := h
  unfold blankB otherB
  rw [h1, h2, h3, h4, h5]
  exact ⟨rfl, rfl⟩
theorem escB_widens (c : UInt8) : (escB c).length = 1 + 3 * ((if blankB c then 1 else 0) + (if otherB c then 1 else 0)) := by
  cases h : special c with
  | true =>
    rcases special_cases h with rfl | rfl | rfl | rfl | rfl <;> rfl
  | false =>
    obtain ⟨h1, h2⟩ := plain_blank h
    rw [escB_plain c h, h1, h2]
    rfl
theorem esc_widens (l : List UInt8) : (esc l).length = l.length + 3 * (bl l + ot l) := by
  induction l with
  | nil => rfl
  | cons c l ih =>
    have e : esc (c :: l) = escB c ++ esc l := by simp [esc]
    have e1 : bl (c :: l) = bl l + if blankB c then 1 else 0 := by simp [bl, List.countP_cons]
    have e2 : ot (c :: l) = ot l + if otherB c then 1 else 0 := by simp [ot, List.countP_cons]
    rw [e, List.length_append, List.length_cons, e1, e2, escB_widens, ih]
    omega
theorem escB_unblank (c : UInt8) : ∀ x ∈ escB c, blankB x = false := by
  cases h : special c with
  | true =>
    rcases special_cases h with rfl | rfl | rfl | rfl | rfl <;> decide
  | false =>
    obtain ⟨h1, h2⟩ := plain_blank h
    rw [escB_plain c h]
    intro x hx
    rw [List.mem_singleton] at hx
    rw [hx]; exact h1
theorem esc_unblank (l : List UInt8) : ∀ x ∈ esc l, blankB x = false := by
  intro x hx
  unfold esc at hx
  rw [List.mem_flatMap] at hx
  obtain ⟨c, _, hc⟩ := hx
  exact escB_unblank c x hc

/-! ### The walks -/
theorem isBlank_is (r : Int) (v : Bool) (w : World) (h : (r == 32 || r == 9) = v) :
    Calls Tryf.prog 14 #[.int .i32 r] w fun e w' => e = .returned (.bool v) ∧ w' = w := by
  subst h
  cases h1 : (r == 32) with
  | true =>
    go_enter Tryf.func14, Tryf.ntmps14
    go_wp2
    go_ret
    exact ⟨rfl, rfl⟩
  | false =>
    cases h2 : (r == 9) with
    | true =>
      go_enter Tryf.func14, Tryf.ntmps14
      go_wp2
      go_ret
      exact ⟨rfl, rfl⟩
    | false =>
      go_enter Tryf.func14, Tryf.ntmps14
      go_wp2
      go_ret
      exact ⟨rfl, rfl⟩

theorem blank_int (c : UInt8) : ((c.toNat : Int) == 32 || (c.toNat : Int) == 9) = blankB c := by
  unfold blankB
  have h1 : ((c.toNat : Int) == 32) = (c == 32) := by
    by_cases e : c = 32
    · subst e; rfl
    · rw [show ((c.toNat : Int) == 32) = false from ne_byte c 32 e]; simp [e]
  have h2 : ((c.toNat : Int) == 9) = (c == 9) := by
    by_cases e : c = 9
    · subst e; rfl
    · rw [show ((c.toNat : Int) == 9) = false from ne_byte c 9 e]; simp [e]
  rw [h1, h2]

theorem wrap_byte (c : UInt8) : wrap32 (c.toNat : Int) = (c.toNat : Int) := by
  have h := c.toNat_lt
  unfold wrap32
  omega

theorem ZZIsBlank_is (c : UInt8) (v : Bool) (w : World) (h : blankB c = v) :
    Calls Tryf.prog 8 #[.int .i32 (wrap32 (c.toNat : Int))] w fun e w' => e = .returned (.bool v) ∧ w' = w := by
  rw [wrap_byte]
  go_enter Tryf.func8, Tryf.ntmps8
  go_wp2_with fail
  refine (isBlank_is (c.toNat : Int) v _ (by rw [blank_int]; exact h)).mono ?_
  rintro e w' ⟨rfl, rfl⟩
  go_wp2
  go_ret
  exact ⟨rfl, rfl⟩

set_option maxHeartbeats 2000000 in
theorem law_core (F : Interp) (s : ByteArray) (w : World) (hF : F.told.answers w.tape) (hs : s.size ≤ 65536) :
    Calls Tryf.prog 3 #[.string s] w fun e w' => e = .returned (.bool true) ∧ Below w.heap.size w w' := by
  have hw := esc_widens s.data.toList
  have hu := esc_unblank s.data.toList
  have hll : s.data.toList.length = s.size := by simp
  go_enter Tryf.func3, Tryf.ntmps3
  go_wp2_with (first | (go_at_call 6; go_in))
  refine (ZZEscape_any F s _ hF hs).mono ?_
  rintro e w1 ⟨rfl, hb1⟩
  have ho : (ByteArray.mk (esc s.data.toList).toArray).size = (esc s.data.toList).length := by simp [ByteArray.size]
  have hou : ∀ (k : Nat) (hk : k < (ByteArray.mk (esc s.data.toList).toArray).size), blankB ((ByteArray.mk (esc s.data.toList).toArray)[k]'hk) = false := by
    intro k hk
    apply hu
    have hk' : k < (esc s.data.toList).length := by rw [← ho]; exact hk
    have : (ByteArray.mk (esc s.data.toList).toArray)[k]'hk = (esc s.data.toList)[k]'hk' := by
      simp [ByteArray.getElem_eq_getElem_data]
    rw [this]
    exact List.getElem_mem _
  have ho1 : (ByteArray.mk (esc s.data.toList).toArray).size ≤ s.size + 3 * (bl s.data.toList + ot s.data.toList) := by rw [ho, hw, hll]; exact Nat.le_refl _
  have ho2 : s.size + 3 * (bl s.data.toList + ot s.data.toList) ≤ (ByteArray.mk (esc s.data.toList).toArray).size := by rw [ho, hw, hll]; exact Nat.le_refl _
  clear ho hw hu
  generalize (ByteArray.mk (esc s.data.toList).toArray) = out at *
  have HO : Hid (∀ (k : Nat) (hk : k < out.size), blankB (out[k]'hk) = false) := hou
  have HO1 : Hid (out.size ≤ s.size + 3 * (bl s.data.toList + ot s.data.toList)) := ho1
  have HO2 : Hid (s.size + 3 * (bl s.data.toList + ot s.data.toList) ≤ out.size) := ho2
  have hbo : bl s.data.toList ≤ s.size := by rw [← hll]; exact bl_le _
  have hoo : ot s.data.toList ≤ s.size := by rw [← hll]; exact ot_le _
  have hos : out.size ≤ 500000 := by omega
  clear hou ho1 ho2 hll hbo hoo
  go_wp2
  go_loop [4, 5, 6, 7] (fun n m i c => ∃ k : Nat, k ≤ s.size ∧ i = .int .i64 k ∧ n = .int .i64 (bl (s.data.toList.take k)) ∧ m = .int .i64 (ot (s.data.toList.take k))) (fun _ _ i _ => s.size - (intOf i).toNat)
  case atStart => exact ⟨0, by omega, rfl, rfl, rfl⟩
  case round =>
    obtain ⟨k, hk, rfl, rfl, rfl⟩ := hrel
    have h2 : (s.data.toList.take k).length ≤ k := List.length_take_le _ _
    have hbk : bl (s.data.toList.take k) ≤ k := Nat.le_trans (bl_le _) h2
    have hok : ot (s.data.toList.take k) ≤ k := Nat.le_trans (ot_le _) h2
    clear h2
    by_cases hlt : k < s.size
    · have HK : Hid (s.data.toList.take (k + 1) = s.data.toList.take k ++ [s[k]'hlt]) := take_snoc s k hlt
      by_cases e32 : (s[k]'hlt) = 32
      · have HB : Hid (blankB (s[k]'hlt) = true) := by show _ = _; rw [e32]; rfl
        have HT : Hid (otherB (s[k]'hlt) = false) := by show _ = _; rw [e32]; rfl
        have t10 : (((s[k]'hlt).toNat : Int) == 10) = false := by rw [e32]; rfl
        have t13 : (((s[k]'hlt).toNat : Int) == 13) = false := by rw [e32]; rfl
        have t92 : (((s[k]'hlt).toNat : Int) == 92) = false := by rw [e32]; rfl
        clear e32
        go_wp2_with fail
        refine (ZZIsBlank_is (s[k]'hlt) true _ HB.out).mono ?_
        rintro e w2 ⟨rfl, rfl⟩
        go_wp2
        go_round
        case rel => exact ⟨k + 1, by omega, by go_num, by rw [HK.out, bl_yes _ _ HB.out]; go_num, by rw [HK.out, ot_no _ _ HT.out]⟩
        case measure => simp [intOf]; omega
      by_cases e9 : (s[k]'hlt) = 9
      · have HB : Hid (blankB (s[k]'hlt) = true) := by show _ = _; rw [e9]; rfl
        have HT : Hid (otherB (s[k]'hlt) = false) := by show _ = _; rw [e9]; rfl
        have t10 : (((s[k]'hlt).toNat : Int) == 10) = false := by rw [e9]; rfl
        have t13 : (((s[k]'hlt).toNat : Int) == 13) = false := by rw [e9]; rfl
        have t92 : (((s[k]'hlt).toNat : Int) == 92) = false := by rw [e9]; rfl
        clear e32 e9
        go_wp2_with fail
        refine (ZZIsBlank_is (s[k]'hlt) true _ HB.out).mono ?_
        rintro e w2 ⟨rfl, rfl⟩
        go_wp2
        go_round
        case rel => exact ⟨k + 1, by omega, by go_num, by rw [HK.out, bl_yes _ _ HB.out]; go_num, by rw [HK.out, ot_no _ _ HT.out]⟩
        case measure => simp [intOf]; omega
      by_cases e10 : (s[k]'hlt) = 10
      · have HB : Hid (blankB (s[k]'hlt) = false) := by show _ = _; rw [e10]; rfl
        have HT : Hid (otherB (s[k]'hlt) = true) := by show _ = _; rw [e10]; rfl
        have t10 : (((s[k]'hlt).toNat : Int) == 10) = true := by rw [e10]; rfl
        have t13 : (((s[k]'hlt).toNat : Int) == 13) = false := by rw [e10]; rfl
        have t92 : (((s[k]'hlt).toNat : Int) == 92) = false := by rw [e10]; rfl
        clear e32 e9 e10
        go_wp2_with fail
        refine (ZZIsBlank_is (s[k]'hlt) false _ HB.out).mono ?_
        rintro e w2 ⟨rfl, rfl⟩
        go_wp2
        go_round
        case rel => exact ⟨k + 1, by omega, by go_num, by rw [HK.out, bl_no _ _ HB.out], by rw [HK.out, ot_yes _ _ HT.out]; go_num⟩
        case measure => simp [intOf]; omega
      by_cases e13 : (s[k]'hlt) = 13
      · have HB : Hid (blankB (s[k]'hlt) = false) := by show _ = _; rw [e13]; rfl
        have HT : Hid (otherB (s[k]'hlt) = true) := by show _ = _; rw [e13]; rfl
        have t10 : (((s[k]'hlt).toNat : Int) == 10) = false := by rw [e13]; rfl
        have t13 : (((s[k]'hlt).toNat : Int) == 13) = true := by rw [e13]; rfl
        have t92 : (((s[k]'hlt).toNat : Int) == 92) = false := by rw [e13]; rfl
        clear e32 e9 e10 e13
        go_wp2_with fail
        refine (ZZIsBlank_is (s[k]'hlt) false _ HB.out).mono ?_
        rintro e w2 ⟨rfl, rfl⟩
        go_wp2
        go_round
        case rel => exact ⟨k + 1, by omega, by go_num, by rw [HK.out, bl_no _ _ HB.out], by rw [HK.out, ot_yes _ _ HT.out]; go_num⟩
        case measure => simp [intOf]; omega
      by_cases e92 : (s[k]'hlt) = 92
      · have HB : Hid (blankB (s[k]'hlt) = false) := by show _ = _; rw [e92]; rfl
        have HT : Hid (otherB (s[k]'hlt) = true) := by show _ = _; rw [e92]; rfl
        have t10 : (((s[k]'hlt).toNat : Int) == 10) = false := by rw [e92]; rfl
        have t13 : (((s[k]'hlt).toNat : Int) == 13) = false := by rw [e92]; rfl
        have t92 : (((s[k]'hlt).toNat : Int) == 92) = true := by rw [e92]; rfl
        clear e32 e9 e10 e13 e92
        go_wp2_with fail
        refine (ZZIsBlank_is (s[k]'hlt) false _ HB.out).mono ?_
        rintro e w2 ⟨rfl, rfl⟩
        go_wp2
        go_round
        case rel => exact ⟨k + 1, by omega, by go_num, by rw [HK.out, bl_no _ _ HB.out], by rw [HK.out, ot_yes _ _ HT.out]; go_num⟩
        case measure => simp [intOf]; omega
      have hsp := special_not e32 e9 e10 e13 e92
      have HB : Hid (blankB (s[k]'hlt) = false) := (plain_blank hsp).1
      have HT : Hid (otherB (s[k]'hlt) = false) := (plain_blank hsp).2
      have t10 : (((s[k]'hlt).toNat : Int) == 10) = false := ne_byte (s[k]'hlt) 10 e10
      have t13 : (((s[k]'hlt).toNat : Int) == 13) = false := ne_byte (s[k]'hlt) 13 e13
      have t92 : (((s[k]'hlt).toNat : Int) == 92) = false := ne_byte (s[k]'hlt) 92 e92
      clear hsp e32 e9 e10 e13 e92
      go_wp2_with fail
      refine (ZZIsBlank_is (s[k]'hlt) false _ HB.out).mono ?_
      rintro e w2 ⟨rfl, rfl⟩
      go_wp2
      go_round
      case rel => exact ⟨k + 1, by omega, by go_num, by rw [HK.out, bl_no _ _ HB.out], by rw [HK.out, ot_no _ _ HT.out]⟩
      case measure => simp [intOf]; omega
    · obtain rfl : k = s.size := by omega
      have et : s.data.toList.take s.size = s.data.toList := List.take_of_length_le (by simp)
      rw [et] at hbk hok ⊢
      have ho1 := HO1.out
      have ho2 := HO2.out
      clear et hlt hk
      generalize bl s.data.toList = nb at *
      generalize ot s.data.toList = no at *
      go_wp2
      go_loop [8] (fun i => ∃ k : Nat, k ≤ out.size ∧ i = .int .i64 k) (fun i => out.size - (intOf i).toNat)
      case atStart => exact ⟨0, by omega, rfl⟩
      case round =>
        obtain ⟨k, hk, rfl⟩ := hrel
        by_cases hlt : k < out.size
        · have HB : Hid (blankB (out[k]'hlt) = false) := HO.out k hlt
          go_wp2_with fail
          refine (ZZIsBlank_is (out[k]'hlt) false _ HB.out).mono ?_
          rintro e w2 ⟨rfl, rfl⟩
          go_wp2
          go_round
          case rel => exact ⟨k + 1, by omega, by go_num⟩
          case measure => simp [intOf]; omega
        · go_wp2
          go_ret
          exact ⟨rfl, hb1⟩

theorem law_all (F : Interp) (s : ByteArray) (w : World) (hF : F.told.answers w.tape) (hs : s.size ≤ maxLen) :
    Calls Tryf.prog 3 #[.string s] w fun e w' => e = .returned (.bool true) ∧ Below w.heap.size w w' := by
  unfold maxLen at hs
  by_cases c1 : s.size ≤ 1048576
  · by_cases c2 : s.size ≤ 65536
    · exact law_core F s w hF c2
    · clear hF
      go_enter Tryf.func3, Tryf.ntmps3
      go_wp2
      go_ret
      exact ⟨rfl, Below.refl _ _⟩
  · clear hF
    go_enter Tryf.func3, Tryf.ntmps3
    go_wp2
    go_ret
    exact ⟨rfl, Below.refl _ _⟩

end Go.Proofs.Qxb6614934aFmt
