/-
  The walks of the two laws (3, 4), for whatever text fmt gives.
-/
import Derived.Test.Qxb6619172aFmtParse
import Derived.Test.Qxb6619172aFmtReplace
namespace Go.Proofs.Qxb6619172aFmt
open Go.RowKit Go.Extern.Stop Go.Stop Go.Extern
set_option linter.unusedVariables false

/-! ### The plain laws -/
theorem visB_cases {l : List UInt8} (h : visB l = true) : l = [112, 117, 98, 108, 105, 99] ∨ l = [117, 110, 108, 105, 115, 116, 101, 100] ∨ l = [112, 114, 105, 118, 97, 116, 101] := by
  unfold visB at h
  rw [Bool.or_eq_true, Bool.or_eq_true, beq_iff_eq, beq_iff_eq, beq_iff_eq] at h
  rcases h with (h | h) | h
  · exact Or.inl h
  · exact Or.inr (Or.inl h)
  · exact Or.inr (Or.inr h)

theorem mem_insert {l : List UInt8} {p : Nat} {b x : UInt8} (h : x ∈ l) : x ∈ l.take p ++ b :: l.drop p := by
  rw [← List.take_append_drop p l] at h
  rw [List.mem_append] at h ⊢
  rcases h with h | h
  · exact Or.inl h
  · exact Or.inr (List.mem_cons_of_mem _ h)

theorem apart_insert {l : List UInt8} {p : Nat} {b : UInt8} (hp : p ≤ l.length) (h1 : visB l = true) (h2 : visB (l.take p ++ b :: l.drop p) = true) : False := by
  have hlen : (l.take p ++ b :: l.drop p).length = l.length + 1 := by simp; omega
  have hm : ∀ x, x ∈ l → x ∈ l.take p ++ b :: l.drop p := fun x h => mem_insert h
  generalize l.take p ++ b :: l.drop p = t at *
  rcases visB_cases h1 with rfl | rfl | rfl <;> rcases visB_cases h2 with rfl | rfl | rfl
  · simp at hlen
  · simp at hlen
  · exact absurd (hm 117 (by decide)) (by decide)
  · simp at hlen
  · simp at hlen
  · simp at hlen
  · simp at hlen
  · exact absurd (hm 112 (by decide)) (by decide)
  · simp at hlen

theorem visB_len {l t : List UInt8} (h1 : visB l = true) (h2 : visB t = true) (h : l.length = t.length) : l = t := by
  rcases visB_cases h1 with rfl | rfl | rfl <;> rcases visB_cases h2 with rfl | rfl | rfl <;> first | rfl | (exact absurd h (by decide))

theorem apart_set {l : List UInt8} {p : Nat} {b : UInt8} (hp : p < l.length) (hb : l[p] ≠ b) (h1 : visB l = true) (h2 : visB (l.set p b) = true) : False := by
  have e := visB_len h1 h2 (by simp)
  apply hb
  have : (l.set p b)[p]'(by simpa using hp) = b := by simp
  rw [← this]
  congr 1

theorem toList_data (s : ByteArray) : s.toList = s.data.toList := ByteArray.toList_eq s

/-! ### The walks -/
set_option maxHeartbeats 800000 in
theorem insert_law (F : Interp) (s : ByteArray) (p : Nat) (b : UInt8) (w : World) (hF : F.answers w.tape) (hs : s.size ≤ 4096) (hp : p ≤ s.size) :
    Calls Tryf.prog 3 #[.string s, .int .i64 (p : Int), .int .u8 (b.toNat : Int)] w fun e w' => e = .returned (.bool true) ∧ Below w.heap.size w w' := by
  have hap : visB s.toList = true → visB (ByteArray.mk (s.data.toList.take p ++ b :: s.data.toList.drop p).toArray).toList = true → False := by
    rw [toList_data, ByteArray.toList_mk]
    exact apart_insert (by simpa using hp)
  go_enter Tryf.func3, Tryf.ntmps3
  go_wp2_with (first | (go_at_call 5; go_in))
  refine (insert_any s p b _ hs hp).mono ?_
  rintro e w1 ⟨rfl, hb1⟩
  have hF1 : F.answers w1.tape := by rw [hb1.tape]; exact hF
  have hz1 := hb1.size
  generalize (ByteArray.mk (s.data.toList.take p ++ b :: s.data.toList.drop p).toArray) = t at *
  cases hv1 : visB s.toList with
  | true =>
    cases hv2 : visB t.toList with
    | true => exact absurd (hap hv1 hv2) id
    | false =>
      clear hap
      go_wp2_with fail
      refine (parse_yes s _ hv1).mono ?_
      rintro e w2 ⟨rfl, rfl⟩
      go_wp2_with fail
      refine (parse_no F t _ hF1 hv2).mono ?_
      rintro e w3 ⟨rfl, hb3⟩
      have hz3 := hb3.size
      go_wp2_with fail
      refine (shaped_yes s _).mono ?_
      rintro e w4 ⟨rfl, rfl⟩
      go_wp2_with fail
      refine (shaped_no t _).mono ?_
      rintro e w5 ⟨rfl, rfl⟩
      go_wp2_with fail
      go_ret
      exact ⟨rfl, hb1.trans (hb3.mono hz1)⟩
  | false =>
    clear hap
    cases hv2 : visB t.toList with
    | true =>
      go_wp2_with fail
      refine (parse_no F s _ hF1 hv1).mono ?_
      rintro e w2 ⟨rfl, hb2⟩
      have hz2 := hb2.size
      go_wp2_with fail
      refine (parse_yes t _ hv2).mono ?_
      rintro e w3 ⟨rfl, rfl⟩
      go_wp2_with fail
      refine (shaped_no s _).mono ?_
      rintro e w4 ⟨rfl, rfl⟩
      go_wp2_with fail
      refine (shaped_yes t _).mono ?_
      rintro e w5 ⟨rfl, rfl⟩
      go_wp2_with fail
      go_ret
      exact ⟨rfl, hb1.trans (hb2.mono hz1)⟩
    | false =>
      go_wp2_with fail
      refine (parse_no F s _ hF1 hv1).mono ?_
      rintro e w2 ⟨rfl, hb2⟩
      have hz2 := hb2.size
      have hF2 : F.answers w2.tape := by rw [hb2.tape]; exact hF1
      go_wp2_with fail
      refine (parse_no F t _ hF2 hv2).mono ?_
      rintro e w3 ⟨rfl, hb3⟩
      have hz3 := hb3.size
      go_wp2_with fail
      refine (shaped_no s _).mono ?_
      rintro e w4 ⟨rfl, rfl⟩
      go_wp2_with fail
      refine (shaped_no t _).mono ?_
      rintro e w5 ⟨rfl, rfl⟩
      go_wp2_with fail
      go_ret
      exact ⟨rfl, (hb1.trans (hb2.mono hz1)).trans (hb3.mono (Nat.le_trans hz1 hz2))⟩

set_option maxHeartbeats 800000 in
theorem replace_law (F : Interp) (s : ByteArray) (p : Nat) (b : UInt8) (w : World) (hF : F.answers w.tape) (hs : s.size ≤ 4096) (hp : p < s.size) (hne : ((b.toNat : Int) == (s[p].toNat : Int)) = false) :
    Calls Tryf.prog 4 #[.string s, .int .i64 (p : Int), .int .u8 (b.toNat : Int)] w fun e w' => e = .returned (.bool true) ∧ Below w.heap.size w w' := by
  have hap : visB s.toList = true → visB (ByteArray.mk (s.data.toList.set p b).toArray).toList = true → False := by
    rw [toList_data, ByteArray.toList_mk]
    refine apart_set (by simpa using hp) ?_
    intro h
    have h' : s[p] = b := h
    rw [h'] at hne
    simp at hne
  go_enter Tryf.func4, Tryf.ntmps4
  go_wp2_with (first | (go_at_call 9; go_in))
  refine (replace_any s p b _ hs hp).mono ?_
  rintro e w1 ⟨rfl, hb1⟩
  have hF1 : F.answers w1.tape := by rw [hb1.tape]; exact hF
  have hz1 := hb1.size
  generalize (ByteArray.mk (s.data.toList.set p b).toArray) = t at *
  cases hv1 : visB s.toList with
  | true =>
    cases hv2 : visB t.toList with
    | true => exact absurd (hap hv1 hv2) id
    | false =>
      clear hap
      go_wp2_with fail
      refine (parse_yes s _ hv1).mono ?_
      rintro e w2 ⟨rfl, rfl⟩
      go_wp2_with fail
      refine (parse_no F t _ hF1 hv2).mono ?_
      rintro e w3 ⟨rfl, hb3⟩
      have hz3 := hb3.size
      go_wp2_with fail
      refine (shaped_yes s _).mono ?_
      rintro e w4 ⟨rfl, rfl⟩
      go_wp2_with fail
      refine (shaped_no t _).mono ?_
      rintro e w5 ⟨rfl, rfl⟩
      go_wp2_with fail
      go_ret
      exact ⟨rfl, hb1.trans (hb3.mono hz1)⟩
  | false =>
    clear hap
    cases hv2 : visB t.toList with
    | true =>
      go_wp2_with fail
      refine (parse_no F s _ hF1 hv1).mono ?_
      rintro e w2 ⟨rfl, hb2⟩
      have hz2 := hb2.size
      go_wp2_with fail
      refine (parse_yes t _ hv2).mono ?_
      rintro e w3 ⟨rfl, rfl⟩
      go_wp2_with fail
      refine (shaped_no s _).mono ?_
      rintro e w4 ⟨rfl, rfl⟩
      go_wp2_with fail
      refine (shaped_yes t _).mono ?_
      rintro e w5 ⟨rfl, rfl⟩
      go_wp2_with fail
      go_ret
      exact ⟨rfl, hb1.trans (hb2.mono hz1)⟩
    | false =>
      go_wp2_with fail
      refine (parse_no F s _ hF1 hv1).mono ?_
      rintro e w2 ⟨rfl, hb2⟩
      have hz2 := hb2.size
      have hF2 : F.answers w2.tape := by rw [hb2.tape]; exact hF1
      go_wp2_with fail
      refine (parse_no F t _ hF2 hv2).mono ?_
      rintro e w3 ⟨rfl, hb3⟩
      have hz3 := hb3.size
      go_wp2_with fail
      refine (shaped_no s _).mono ?_
      rintro e w4 ⟨rfl, rfl⟩
      go_wp2_with fail
      refine (shaped_no t _).mono ?_
      rintro e w5 ⟨rfl, rfl⟩
      go_wp2_with fail
      go_ret
      exact ⟨rfl, (hb1.trans (hb2.mono hz1)).trans (hb3.mono (Nat.le_trans hz1 hz2))⟩

end Go.Proofs.Qxb6619172aFmt
