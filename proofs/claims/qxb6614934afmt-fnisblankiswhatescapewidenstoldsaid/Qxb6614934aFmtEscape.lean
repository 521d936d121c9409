/-
  escape (13) and ZZEscape (7), fmt's text told.
-/
import Derived.Test.Qxb6614934aFmtFprintf
namespace Go.Proofs.Qxb6614934aFmt
open Go.RowKit Go.Extern.Stop Go.Stop Go.Extern Go.Kit
set_option linter.unusedVariables false
set_option maxRecDepth 100000

/-- What escape writes. -/
def esc (l : List UInt8) : List UInt8 := l.flatMap escB
theorem esc_snoc (l : List UInt8) (c : UInt8) : esc (l ++ [c]) = esc l ++ escB c := by simp [esc]
theorem escB_length (c : UInt8) : 1 ≤ (escB c).length ∧ (escB c).length ≤ 4 := by
  unfold escB
  split
  · decide
  split
  · decide
  split
  · decide
  split
  · decide
  split
  · decide
  · exact ⟨Nat.le_refl _, by simp⟩
theorem esc_length (l : List UInt8) : l.length ≤ (esc l).length ∧ (esc l).length ≤ 4 * l.length := by
  induction l with
  | nil => exact ⟨Nat.le_refl _, Nat.le_refl _⟩
  | cons c l ih =>
    have h := escB_length c
    have e : esc (c :: l) = escB c ++ esc l := by simp [esc]
    rw [e, List.length_append, List.length_cons]
    omega
theorem escB_plain (c : UInt8) (h : special c = false) : escB c = [c] := by
  unfold special at h
  simp only [Bool.or_eq_false_iff, beq_eq_false_iff_ne] at h
  obtain ⟨⟨⟨⟨h1, h2⟩, h3⟩, h4⟩, h5⟩ := h
  unfold escB
  rw [if_neg h1, if_neg h2, if_neg h3, if_neg h4, if_neg h5]
theorem take_snoc (s : ByteArray) (k : Nat) (h : k < s.size) : s.data.toList.take (k + 1) = s.data.toList.take k ++ [s[k]] := by
  rw [List.take_succ_eq_append_getElem (by simpa using h)]; rfl
theorem ne_byte (c d : UInt8) (h : c ≠ d) : ((c.toNat : Int) == (d.toNat : Int)) = false := by
  rw [beq_eq_false_iff_ne]
  intro e
  exact h (UInt8.toNat_inj.1 (by omega))
theorem special_of {c : UInt8} (h : c = 32 ∨ c = 9 ∨ c = 10 ∨ c = 13 ∨ c = 92) : special c = true := by
  rcases h with rfl | rfl | rfl | rfl | rfl <;> rfl
theorem special_not {c : UInt8} (h1 : c ≠ 32) (h2 : c ≠ 9) (h3 : c ≠ 10) (h4 : c ≠ 13) (h5 : c ≠ 92) : special c = false := by
  unfold special
  simp only [Bool.or_eq_false_iff, beq_eq_false_iff_ne]
  exact ⟨⟨⟨⟨h1, h2⟩, h3⟩, h4⟩, h5⟩

theorem fprintf_esc (F : Interp) (B b blk : Nat) (l : List UInt8) (c : UInt8) (w : World) (h : Lib.IsBuilder 45 5 B b (Lib.byteCells l) w) (hF : F.told.answers w.tape)
    (hc : w.cell? ⟨blk, 0, none⟩ = some (.iface 5 (.int .u8 (c.toNat : Int)))) (hsp : special c = true) (hl : l.length ≤ 300000) (hBw : B ≤ w.heap.size) :
    Calls Tryf.prog 20 #[.iface 42 (.pointer (some ⟨b, 0, none⟩)), .string ⟨#[92, 37, 48, 51, 111]⟩, .slice (some ⟨blk, 0, none⟩) 1 1] w fun e w' =>
      (∃ N : Int, e = .returned (.tuple #[.int .i64 N, .nilIface])) ∧ Lib.BuilderAt 45 5 B b (.pointer (some ⟨b, 0, none⟩)) (Lib.byteCells (l ++ escB c)) w' ∧ Below B w w' := by
  have ht := told_esc F c hsp
  have hb := escB_length c
  rw [← ht]
  exact fprintf_any F.told B b blk l (c.toNat : Int) w h hF hc (by rw [ht]; omega) hBw

theorem writeByte_esc (B b : Nat) (l : List UInt8) (c : UInt8) (w : World) (h : Lib.IsBuilder 45 5 B b (Lib.byteCells l) w) (hsp : special c = false) (hl : l.length ≤ 300000) (hBw : B ≤ w.heap.size) :
    Calls Tryf.prog 21 #[.pointer (some ⟨b, 0, none⟩), .int .u8 (c.toNat : Int)] w fun e w' => e = .returned .nilIface ∧ (Lib.BuilderAt 45 5 B b (.pointer (some ⟨b, 0, none⟩)) (Lib.byteCells (l ++ escB c)) w' ∧ Below B w w') := by
  have e2 : Lib.byteCells (l ++ escB c) = Lib.byteCells l ++ [Value.int .u8 (c.toNat : Int)] := by
    rw [escB_plain c hsp, Lib.byteCells_append]; rfl
  rw [e2]
  exact writeByte_any B b (Lib.byteCells l) (c.toNat : Int) w h (by rw [Lib.byteCells_length]; omega) hBw

set_option maxHeartbeats 2000000 in
theorem escape_any (F : Interp) (s : ByteArray) (w : World) (hF : F.told.answers w.tape) (hs : s.size ≤ 65536) :
    Calls Tryf.prog 13 #[.string s] w fun e w' => e = .returned (.string ⟨(esc s.data.toList).toArray⟩) ∧ Below w.heap.size w w' := by
  go_enter Tryf.func13, Tryf.ntmps13
  go_wp2
  go_loopw [4, 5] (fun i c wr => ∃ k : Nat, k ≤ s.size ∧ i = .int .i64 k ∧ Hid (Lib.IsBuilder 45 5 w.heap.size w.heap.size (Lib.byteCells (esc (s.data.toList.take k))) wr) ∧ Below w.heap.size w wr ∧ Hid (k = 0 → wr.heap[w.heap.size]? = some (.cells #[.pointer none, .slice none 0 0] 45 (0, 0)))) (fun i _ _ => s.size - (intOf i).toNat)
  case atStart => exact ⟨0, by omega, rfl, Lib.fresh_isBuilder 45 5 w, (Below.refl _ _).alloc (Nat.le_refl _) _, fun _ => heap_alloc_new w _⟩
  case round =>
    obtain ⟨k, hk, rfl, HB, hnx, HZ⟩ := hrel
    have hsz := hnx.size
    have hFr : F.told.answers wr.tape := by rw [hnx.tape]; exact hF
    have hl3 : (esc (s.data.toList.take k)).length ≤ 300000 := by
      have := (esc_length (s.data.toList.take k)).2
      have h2 : (s.data.toList.take k).length ≤ k := List.length_take_le _ _
      omega
    by_cases hlt : k < s.size
    · have HS : Hid (esc (s.data.toList.take (k + 1)) = esc (s.data.toList.take k) ++ escB (s[k]'hlt)) := by
        show _ = _
        rw [take_snoc s k hlt, esc_snoc]
      clear HZ
      by_cases e32 : (s[k]'hlt) = 32
      · have t32 : (((s[k]'hlt).toNat : Int) == 32) = true := by rw [e32]; rfl
        have HT : Hid (special (s[k]'hlt) = true) := special_of (Or.inl e32)
        clear e32
        go_wp2_with fail
        refine (fprintf_esc F w.heap.size w.heap.size wr.heap.size (esc (s.data.toList.take k)) (s[k]'hlt) _ (by exact isBuilder_alloc HB.out _) (by exact hFr) (by simp [go_sem]) HT.out hl3 (by simp; omega)).mono ?_
        rintro e w2 ⟨⟨N, rfl⟩, hB2, hb2⟩
        rw [← HS.out] at hB2
        have HB2 : Hid (Lib.IsBuilder 45 5 w.heap.size w.heap.size (Lib.byteCells (esc (s.data.toList.take (k + 1)))) w2) := Or.inr hB2
        have hnx2 : Below w.heap.size w w2 := (hnx.alloc hsz _).trans hb2
        clear hB2 hb2 HB HT HS
        go_wp2
        go_roundw
        case rel => exact ⟨k + 1, by omega, by go_num, HB2, hnx2, fun h => by omega⟩
        case measure => simp [intOf]; omega
      have f32 : (((s[k]'hlt).toNat : Int) == 32) = false := ne_byte (s[k]'hlt) 32 e32
      by_cases e9 : (s[k]'hlt) = 9
      · have t9 : (((s[k]'hlt).toNat : Int) == 9) = true := by rw [e9]; rfl
        have HT : Hid (special (s[k]'hlt) = true) := special_of (Or.inr (Or.inl e9))
        clear e9
        go_wp2_with fail
        refine (fprintf_esc F w.heap.size w.heap.size wr.heap.size (esc (s.data.toList.take k)) (s[k]'hlt) _ (by exact isBuilder_alloc HB.out _) (by exact hFr) (by simp [go_sem]) HT.out hl3 (by simp; omega)).mono ?_
        rintro e w2 ⟨⟨N, rfl⟩, hB2, hb2⟩
        rw [← HS.out] at hB2
        have HB2 : Hid (Lib.IsBuilder 45 5 w.heap.size w.heap.size (Lib.byteCells (esc (s.data.toList.take (k + 1)))) w2) := Or.inr hB2
        have hnx2 : Below w.heap.size w w2 := (hnx.alloc hsz _).trans hb2
        clear hB2 hb2 HB HT HS
        go_wp2
        go_roundw
        case rel => exact ⟨k + 1, by omega, by go_num, HB2, hnx2, fun h => by omega⟩
        case measure => simp [intOf]; omega
      have f9 : (((s[k]'hlt).toNat : Int) == 9) = false := ne_byte (s[k]'hlt) 9 e9
      by_cases e10 : (s[k]'hlt) = 10
      · have t10 : (((s[k]'hlt).toNat : Int) == 10) = true := by rw [e10]; rfl
        have HT : Hid (special (s[k]'hlt) = true) := special_of (Or.inr (Or.inr (Or.inl e10)))
        clear e10
        go_wp2_with fail
        refine (fprintf_esc F w.heap.size w.heap.size wr.heap.size (esc (s.data.toList.take k)) (s[k]'hlt) _ (by exact isBuilder_alloc HB.out _) (by exact hFr) (by simp [go_sem]) HT.out hl3 (by simp; omega)).mono ?_
        rintro e w2 ⟨⟨N, rfl⟩, hB2, hb2⟩
        rw [← HS.out] at hB2
        have HB2 : Hid (Lib.IsBuilder 45 5 w.heap.size w.heap.size (Lib.byteCells (esc (s.data.toList.take (k + 1)))) w2) := Or.inr hB2
        have hnx2 : Below w.heap.size w w2 := (hnx.alloc hsz _).trans hb2
        clear hB2 hb2 HB HT HS
        go_wp2
        go_roundw
        case rel => exact ⟨k + 1, by omega, by go_num, HB2, hnx2, fun h => by omega⟩
        case measure => simp [intOf]; omega
      have f10 : (((s[k]'hlt).toNat : Int) == 10) = false := ne_byte (s[k]'hlt) 10 e10
      by_cases e13 : (s[k]'hlt) = 13
      · have t13 : (((s[k]'hlt).toNat : Int) == 13) = true := by rw [e13]; rfl
        have HT : Hid (special (s[k]'hlt) = true) := special_of (Or.inr (Or.inr (Or.inr (Or.inl e13))))
        clear e13
        go_wp2_with fail
        refine (fprintf_esc F w.heap.size w.heap.size wr.heap.size (esc (s.data.toList.take k)) (s[k]'hlt) _ (by exact isBuilder_alloc HB.out _) (by exact hFr) (by simp [go_sem]) HT.out hl3 (by simp; omega)).mono ?_
        rintro e w2 ⟨⟨N, rfl⟩, hB2, hb2⟩
        rw [← HS.out] at hB2
        have HB2 : Hid (Lib.IsBuilder 45 5 w.heap.size w.heap.size (Lib.byteCells (esc (s.data.toList.take (k + 1)))) w2) := Or.inr hB2
        have hnx2 : Below w.heap.size w w2 := (hnx.alloc hsz _).trans hb2
        clear hB2 hb2 HB HT HS
        go_wp2
        go_roundw
        case rel => exact ⟨k + 1, by omega, by go_num, HB2, hnx2, fun h => by omega⟩
        case measure => simp [intOf]; omega
      have f13 : (((s[k]'hlt).toNat : Int) == 13) = false := ne_byte (s[k]'hlt) 13 e13
      by_cases e92 : (s[k]'hlt) = 92
      · have t92 : (((s[k]'hlt).toNat : Int) == 92) = true := by rw [e92]; rfl
        have HT : Hid (special (s[k]'hlt) = true) := special_of (Or.inr (Or.inr (Or.inr (Or.inr (e92)))))
        clear e92
        go_wp2_with fail
        refine (fprintf_esc F w.heap.size w.heap.size wr.heap.size (esc (s.data.toList.take k)) (s[k]'hlt) _ (by exact isBuilder_alloc HB.out _) (by exact hFr) (by simp [go_sem]) HT.out hl3 (by simp; omega)).mono ?_
        rintro e w2 ⟨⟨N, rfl⟩, hB2, hb2⟩
        rw [← HS.out] at hB2
        have HB2 : Hid (Lib.IsBuilder 45 5 w.heap.size w.heap.size (Lib.byteCells (esc (s.data.toList.take (k + 1)))) w2) := Or.inr hB2
        have hnx2 : Below w.heap.size w w2 := (hnx.alloc hsz _).trans hb2
        clear hB2 hb2 HB HT HS
        go_wp2
        go_roundw
        case rel => exact ⟨k + 1, by omega, by go_num, HB2, hnx2, fun h => by omega⟩
        case measure => simp [intOf]; omega
      have f92 : (((s[k]'hlt).toNat : Int) == 92) = false := ne_byte (s[k]'hlt) 92 e92
      have HP : Hid (special (s[k]'hlt) = false) := special_not e32 e9 e10 e13 e92
      clear e32 e9 e10 e13 e92
      go_wp2_with fail
      refine (writeByte_esc w.heap.size w.heap.size (esc (s.data.toList.take k)) (s[k]'hlt) _ HB.out HP.out hl3 (by omega)).mono ?_
      rintro e w2 ⟨rfl, hB2, hb2⟩
      rw [← HS.out] at hB2
      have HB2 : Hid (Lib.IsBuilder 45 5 w.heap.size w.heap.size (Lib.byteCells (esc (s.data.toList.take (k + 1)))) w2) := Or.inr hB2
      have hnx2 : Below w.heap.size w w2 := hnx.trans hb2
      clear hB2 hb2 HB HP HS
      go_wp2
      go_roundw
      case rel => exact ⟨k + 1, by omega, by go_num, HB2, hnx2, fun h => by omega⟩
      case measure => simp [intOf]; omega
    · obtain rfl : k = s.size := by omega
      have et : s.data.toList.take s.size = s.data.toList := List.take_of_length_le (by simp)
      rw [et] at HB
      have hlo := esc_length s.data.toList
      clear hlt et
      by_cases h0 : s.size = 0
      · have hbk := HZ.out h0
        have en : s.data.toList = [] := List.length_eq_zero_iff.1 (by simpa using h0)
        have ee : ByteArray.mk (esc s.data.toList).toArray = ⟨#[]⟩ := by rw [en]; rfl
        have HE : Hid (ByteArray.mk (esc s.data.toList).toArray = ⟨#[]⟩) := ee
        have HK : Hid (wr.heap[w.heap.size]? = some (.cells #[.pointer none, .slice none 0 0] 45 (0, 0))) := hbk
        clear hbk ee en HZ h0 hlo HB
        go_wp2_with fail
        refine (string_nil w.heap.size w.heap.size _ _ HK.out).mono ?_
        rintro e w2 ⟨rfl, hb2⟩
        go_wp2
        go_ret
        exact ⟨by rw [HE.out]; rfl, hnx.trans hb2⟩
      · have hne : esc s.data.toList ≠ [] := by
          intro h
          rw [h] at hlo
          have h2 : s.data.toList.length = 0 := by simpa using hlo.1
          exact h0 (by simpa using h2)
        have HN : Hid (esc s.data.toList ≠ []) := hne
        clear hne HZ h0 hlo
        go_wp2_with fail
        refine (string_full w.heap.size w.heap.size (esc s.data.toList) _ HB.out HN.out).mono ?_
        rintro e w2 ⟨rfl, hb2⟩
        go_wp2
        go_ret
        exact ⟨rfl, hnx.trans hb2⟩

theorem ZZEscape_any (F : Interp) (s : ByteArray) (w : World) (hF : F.told.answers w.tape) (hs : s.size ≤ 65536) :
    Calls Tryf.prog 7 #[.string s] w fun e w' => e = .returned (.string ⟨(esc s.data.toList).toArray⟩) ∧ Below w.heap.size w w' := by
  go_enter Tryf.func7, Tryf.ntmps7
  go_wp2_with fail
  refine (escape_any F s _ hF hs).mono ?_
  rintro e w2 ⟨rfl, hb2⟩
  go_wp2
  go_ret
  exact ⟨rfl, hb2⟩

end Go.Proofs.Qxb6614934aFmt
