/-
  zzReplaceByte (10).
-/
import Derived.Test.Qxb6619172aFmtInsert
namespace Go.Proofs.Qxb6619172aFmt
open Go.RowKit
set_option linter.unusedVariables false

/-- What zzReplaceByte has gathered when its loop comes to k. -/
def rep (l : List UInt8) (p : Nat) (b : UInt8) (k : Nat) : List UInt8 := (l.take k).set p b

theorem rep_hit (s : ByteArray) (p : Nat) (b : UInt8) (h : p < s.size) : rep s.data.toList p b (p + 1) = rep s.data.toList p b p ++ [b] := by
  have hl : p < s.data.toList.length := by simpa using h
  unfold rep
  rw [take_snoc s p h]
  have h1 : (s.data.toList.take p).length = p := by simp; omega
  rw [List.set_append_right _ _ (by omega), List.set_eq_of_length_le (l := s.data.toList.take p) (by omega), h1, Nat.sub_self]
  rfl
theorem rep_miss (s : ByteArray) (p : Nat) (b : UInt8) (k : Nat) (h : k < s.size) (hne : k ≠ p) : rep s.data.toList p b (k + 1) = rep s.data.toList p b k ++ [s[k]] := by
  have hl : k < s.data.toList.length := by simpa using h
  unfold rep
  rw [take_snoc s k h]
  have h1 : (s.data.toList.take k).length = k := by simp; omega
  by_cases hpk : p < k
  · rw [List.set_append_left _ _ (by omega)]
  · rw [List.set_append_right _ _ (by omega), List.set_eq_of_length_le (l := s.data.toList.take k) (by omega)]
    congr 1
    obtain ⟨m, hm⟩ : ∃ m, p - (s.data.toList.take k).length = m + 1 := ⟨p - k - 1, by omega⟩
    rw [hm]
    rfl
theorem rep_end (l : List UInt8) (p : Nat) (b : UInt8) (k : Nat) (h : l.length ≤ k) : rep l p b k = l.set p b := by
  unfold rep; rw [List.take_of_length_le h]
theorem rep_length (l : List UInt8) (p : Nat) (b : UInt8) (k : Nat) (hk : k ≤ l.length) : (rep l p b k).length = k := by
  unfold rep; simp; omega

set_option maxHeartbeats 800000 in
theorem replace_any (s : ByteArray) (p : Nat) (b : UInt8) (w : World) (hs : s.size ≤ 4096) (hp : p < s.size) :
    Calls Tryf.prog 10 #[.string s, .int .i64 (p : Int), .int .u8 (b.toNat : Int)] w fun e w' =>
      e = .returned (.string ⟨(s.data.toList.set p b).toArray⟩) ∧ Below w.heap.size w w' := by
  obtain ⟨i0, hi, hz0, hz1, hz2⟩ := info_parts info5
  go_enter Tryf.func10, Tryf.ntmps10
  go_wp2_with (at_make; refine wpList_make_own _ rfl _ _ 30 rfl w.heap.size 5 i0 (.int .u8 0) 1 Tryf.underlying30 hi hz0 hz1 _ _ _ s.size rfl rfl (by omega) ?b2 ?b3 (Nat.le_refl _) ?_)
  case b2 => rw [hz2]; omega
  case b3 => unfold maxLen; omega
  intro w0 hown0 hgrow0
  have hnx0 : Below w.heap.size w w0 := (Below.refl _ _).grown hgrow0 (Nat.le_refl _) (fun k h => by cases h)
  clear hgrow0
  go_wp2
  go_loopw [7, 8] (fun v i wr => ∃ k : Nat, k ≤ s.size ∧ i = .int .i64 k ∧ v = .slice (some ⟨w.heap.size, 0, none⟩) k s.size ∧ wr.ownsRow w.heap.size 5 1 (.slice (some ⟨w.heap.size, 0, none⟩) k s.size) k (bc (rep s.data.toList p b k)) ∧ Below w.heap.size w wr) (fun _ i _ => s.size - (intOf i).toNat)
  case atStart => exact ⟨0, by omega, rfl, rfl, hown0, hnx0⟩
  case round =>
    clear hown0 hnx0
    obtain ⟨k, hk, rfl, rfl, hown, hnx⟩ := hrel
    have hsz := hnx.size
    by_cases hlt : k < s.size
    · by_cases hkp : k = p
      · subst hkp
        have ht : ((k : Int) == (k : Int)) = true := by simp
        go_wp2_with (at_builtin; refine wpList_append_fits _ rfl (.tmp 21) (.tmp 23) 30 rfl w.heap.size 5 i0 1 Tryf.underlying30 hi hz1 w.heap.size k s.size _ rfl (hown.alloc _) ⟨wr.heap.size, 0, none⟩ 1 1 [.int .u8 (b.toNat : Int)] rfl rfl one_new one_cell (by omega) ?_)
        intro w1 hown1 hgrow1
        have hnx1 : Below w.heap.size w w1 := (hnx.alloc hsz _).grown hgrow1 (by simp; omega) (fun k hk => by cases hk; exact Nat.le_refl _)
        rw [← bc_snoc, ← rep_hit s k b hlt] at hown1
        clear hown hgrow1
        go_wp2
        go_roundw
        case rel => exact ⟨k + 1, by omega, by go_num, rfl, hown1, hnx1⟩
        case measure => simp [intOf]; omega
      · have ht : ((k : Int) == (p : Int)) = false := by simp; omega
        go_wp2_with (at_builtin; refine wpList_append_fits _ rfl (.tmp 25) (.tmp 29) 30 rfl w.heap.size 5 i0 1 Tryf.underlying30 hi hz1 w.heap.size k s.size _ rfl (hown.alloc _) ⟨wr.heap.size, 0, none⟩ 1 1 [.int .u8 (s[k].toNat : Int)] rfl rfl one_new one_cell (by omega) ?_)
        intro w1 hown1 hgrow1
        have hnx1 : Below w.heap.size w w1 := (hnx.alloc hsz _).grown hgrow1 (by simp; omega) (fun k hk => by cases hk; exact Nat.le_refl _)
        rw [← bc_snoc, ← rep_miss s p b k hlt hkp] at hown1
        clear hown hgrow1
        go_wp2
        go_roundw
        case rel => exact ⟨k + 1, by omega, by go_num, rfl, hown1, hnx1⟩
        case measure => simp [intOf]; omega
    · obtain rfl : k = s.size := by omega
      have hl := rep_length s.data.toList p b s.size (by simp)
      have hcv := run_convert_bytes_back (P := Tryf.prog) wr 30 9 5 ⟨w.heap.size, 0, none⟩ s.size (rep s.data.toList p b s.size) Tryf.underlying30 Tryf.underlying5 Tryf.underlying9
        (fun i hi => hown.cells (g := w.heap.size) rfl i _ (bc_get _ i hi))
      rw [hl, rep_end _ _ _ _ (by simp)] at hcv
      clear hown hl hlt hk
      go_wp2
      go_ret
      exact ⟨rfl, hnx⟩

end Go.Proofs.Qxb6619172aFmt
