/-
  msAgree (5) and the walk of FnMaxSizeShiftsWithMaxMemory (3).
-/
import Derived.Test.Qxb6619012aSize
namespace Go.Proofs.Qxb6619012a
open Go.RowKit
set_option linter.unusedVariables false

theorem shift_is (s f t v : Int) (w : World) (hs : 0 ≤ s) (hs1 : s ≤ 9223372036854775807) (hf : 0 < f) (hf1 : f ≤ 9223372036854775807) (ht : 0 < t) (ht1 : t ≤ 9223372036854775807) (hv : t - f + s ≤ 9223372036854775807) (he : (if t - f + s < 0 then -1 else t - f + s) = v) :
    Calls Try.prog 7 #[.int .i64 s, .int .i64 f, .int .i64 t] w fun e w' => e = .returned (.int .i64 v) ∧ w' = w := by
  subst he; exact shift_any s f t w hs hs1 hf hf1 ht ht1 hv

theorem agree_ll (a b : Int) (w : World) (ha : a ≤ 0) (hb : b ≤ 0) :
    Calls Try.prog 5 #[.int .i64 9223372036854775807, .int .i64 9223372036854775807, .int .i64 a, .int .i64 b] w fun e w' => e = .returned (.bool true) ∧ w' = w := by
  go_enter Try.func5, Try.ntmps5
  go_wp2
  go_ret
  exact ⟨rfl, rfl⟩

theorem agree_lh (a b s : Int) (w : World) (ha : a ≤ 0) (hb : 0 < b) (hs : -1 ≤ s) :
    Calls Try.prog 5 #[.int .i64 9223372036854775807, .int .i64 s, .int .i64 a, .int .i64 b] w fun e w' => e = .returned (.bool true) ∧ w' = w := by
  go_enter Try.func5, Try.ntmps5
  go_wp2
  go_ret
  exact ⟨rfl, rfl⟩

theorem agree_hl (a b s : Int) (w : World) (ha : 0 < a) (hb : b ≤ 0) (hs : -1 ≤ s) :
    Calls Try.prog 5 #[.int .i64 s, .int .i64 9223372036854775807, .int .i64 a, .int .i64 b] w fun e w' => e = .returned (.bool true) ∧ w' = w := by
  go_enter Try.func5, Try.ntmps5
  go_wp2
  go_ret
  exact ⟨rfl, rfl⟩

theorem agree_mm (a b : Int) (w : World) (ha : 0 < a) (hb : 0 < b) :
    Calls Try.prog 5 #[.int .i64 (-1), .int .i64 (-1), .int .i64 a, .int .i64 b] w fun e w' => e = .returned (.bool true) ∧ w' = w := by
  go_enter Try.func5, Try.ntmps5
  go_wp2
  go_ret
  exact ⟨rfl, rfl⟩

theorem agree_mh (a b : Int) (w : World) (ha : 0 < a) (ha1 : a < 65536) (hb : 65536 ≤ b) (hb1 : b ≤ 9223372036854775807) :
    Calls Try.prog 5 #[.int .i64 (-1), .int .i64 (b - 65536), .int .i64 a, .int .i64 b] w fun e w' => e = .returned (.bool true) ∧ w' = w := by
  have hb0 : 0 < b := by omega
  have hd : 0 ≤ b - 65536 := by omega
  go_enter Try.func5, Try.ntmps5
  go_wp2_with fail
  refine (shift_is (b - 65536) b a (-1) _ (by omega) (by omega) hb0 hb1 ha (by omega) (by omega) (by rw [if_pos (by omega)])).mono ?_
  rintro e w' ⟨rfl, rfl⟩
  go_wp2
  go_ret
  exact ⟨rfl, rfl⟩

theorem agree_hm (a b : Int) (w : World) (ha : 65536 ≤ a) (ha1 : a ≤ 9223372036854775807) (hb : 0 < b) (hb1 : b < 65536) :
    Calls Try.prog 5 #[.int .i64 (a - 65536), .int .i64 (-1), .int .i64 a, .int .i64 b] w fun e w' => e = .returned (.bool true) ∧ w' = w := by
  have ha0 : 0 < a := by omega
  have hd : 0 ≤ a - 65536 := by omega
  go_enter Try.func5, Try.ntmps5
  go_wp2_with fail
  refine (shift_is (a - 65536) a b (-1) _ (by omega) (by omega) ha0 ha1 hb (by omega) (by omega) (by rw [if_pos (by omega)])).mono ?_
  rintro e w' ⟨rfl, rfl⟩
  go_wp2
  go_ret
  exact ⟨rfl, rfl⟩

theorem agree_hh (a b : Int) (w : World) (ha : 65536 ≤ a) (ha1 : a ≤ 9223372036854775807) (hb : 65536 ≤ b) (hb1 : b ≤ 9223372036854775807) :
    Calls Try.prog 5 #[.int .i64 (a - 65536), .int .i64 (b - 65536), .int .i64 a, .int .i64 b] w fun e w' => e = .returned (.bool true) ∧ w' = w := by
  have ha0 : 0 < a := by omega
  have hb0 : 0 < b := by omega
  have hd : 0 ≤ a - 65536 := by omega
  have hd' : 0 ≤ b - 65536 := by omega
  go_enter Try.func5, Try.ntmps5
  go_wp2_with fail
  refine (shift_is (a - 65536) a b (b - 65536) _ (by omega) (by omega) ha0 ha1 hb0 hb1 (by omega) (by rw [if_neg (by omega)]; omega)).mono ?_
  rintro e w' ⟨rfl, rfl⟩
  go_wp2_with fail
  refine (shift_is (b - 65536) b a (a - 65536) _ (by omega) (by omega) hb0 hb1 ha0 ha1 (by omega) (by rw [if_neg (by omega)]; omega)).mono ?_
  rintro e w' ⟨rfl, rfl⟩
  go_wp2
  go_ret
  exact ⟨rfl, rfl⟩

/-- What MaxSize answers at the memory a. -/
def msz (a : Int) : Int := if a ≤ 0 then 9223372036854775807 else if a < 65536 then -1 else a - 65536

theorem max_any (b : Nat) (a : Int) (w : World) (h0 : w.cell? ⟨b, 0, none⟩ = some (.int .i64 a)) (h1 : w.cell? ⟨b, 1, none⟩ = some (.pointer none)) (hb : a ≤ 9223372036854775807) :
    Calls Try.prog 4 #[.pointer (some ⟨b, 0, none⟩)] w fun e w' => e = .returned (.int .i64 (msz a)) ∧ ∃ n, w' = w.drewN n := by
  unfold msz
  by_cases c1 : a ≤ 0
  · rw [if_pos c1]; exact max_low b a w h0 c1
  · rw [if_neg c1]
    by_cases c2 : a < 65536
    · rw [if_pos c2]; exact max_mid b a w h0 h1 (by omega) c2
    · rw [if_neg c2]; exact max_high b a w h0 h1 (by omega) hb

theorem agree_any (a b : Int) (w : World) (ha : a ≤ 9223372036854775807) (hb : b ≤ 9223372036854775807) :
    Calls Try.prog 5 #[.int .i64 (msz a), .int .i64 (msz b), .int .i64 a, .int .i64 b] w fun e w' => e = .returned (.bool true) ∧ w' = w := by
  unfold msz
  by_cases c1 : a ≤ 0
  · rw [if_pos c1]
    by_cases d1 : b ≤ 0
    · rw [if_pos d1]; exact agree_ll a b w c1 d1
    · rw [if_neg d1]; exact agree_lh a b _ w c1 (by omega) (by split <;> omega)
  · rw [if_neg c1]
    by_cases d1 : b ≤ 0
    · rw [if_pos d1]; exact agree_hl a b _ w (by omega) d1 (by split <;> omega)
    · rw [if_neg d1]
      by_cases c2 : a < 65536
      · rw [if_pos c2]
        by_cases d2 : b < 65536
        · rw [if_pos d2]; exact agree_mm a b w (by omega) (by omega)
        · rw [if_neg d2]; exact agree_mh a b w (by omega) c2 (by omega) hb
      · rw [if_neg c2]
        by_cases d2 : b < 65536
        · rw [if_pos d2]; exact agree_hm a b w (by omega) ha (by omega) d2
        · rw [if_neg d2]; exact agree_hh a b w (by omega) ha (by omega) hb

end Go.Proofs.Qxb6619012a
