/-
  zzInsertByte (6).
-/
import Derived.Test.Qxb6619172aFmtFacts
import Derived.WalkKit
import Derived.WalkSpells
import Derived.WalkLawsBesides
import Derived.OwnWalk
import Derived.Laws.IdiomStrings
import Derived.RowKit3
import Derived.Outline
namespace Go.Proofs.Qxb6619172aFmt
open Go.RowKit
set_option linter.unusedVariables false

/-- Bytes as cells. -/
def bc (l : List UInt8) : List Value := l.map fun b => Value.int .u8 (b.toNat : Int)
theorem bc_length (l : List UInt8) : (bc l).length = l.length := by simp [bc]
theorem bc_snoc (l : List UInt8) (c : UInt8) : bc (l ++ [c]) = bc l ++ [Value.int .u8 (c.toNat : Int)] := by simp [bc]
theorem bc_get (l : List UInt8) (j : Nat) (h : j < l.length) : (bc l)[j]? = some (Value.int .u8 (l[j].toNat : Int)) := by simp [bc, h]
theorem take_snoc (s : ByteArray) (k : Nat) (h : k < s.size) : s.data.toList.take (k + 1) = s.data.toList.take k ++ [s[k]] := by
  rw [List.take_succ_eq_append_getElem (by simpa using h)]; rfl
theorem one_new {w : World} {t : TypeId} {v : Value} : ∀ (j : Nat) (u : Value), [v][j]? = some u → (w.alloc (.cells #[v] t)).cell? ((⟨w.heap.size, 0, none⟩ : Addr).add j) = some u := by
  intro j u hj
  match j, hj with
  | 0, hj => simp at hj; subst hj; simp [Addr.add]
theorem one_cell {k : IntKind} {n : Int} : ∀ u ∈ [Value.int k n], u.oneCell' = true := by
  intro u hu; simp at hu; subst hu; rfl

theorem info5 : (Tryf.prog.info? 5).map (fun i => (i.zero, i.size, i.bytes)) = some (some (.int .u8 0), 1, 1) := by kernel_rfl

/-- What zzInsertByte has gathered before its second loop comes to k. -/
def ins (l : List UInt8) (p : Nat) (b : UInt8) (k : Nat) : List UInt8 := l.take p ++ b :: (l.take k).drop p

theorem ins_start (l : List UInt8) (p : Nat) (b : UInt8) : ins l p b p = l.take p ++ [b] := by
  unfold ins
  rw [List.drop_eq_nil_of_le (by simp; omega)]
theorem ins_snoc (s : ByteArray) (p : Nat) (b : UInt8) (k : Nat) (hp : p ≤ k) (h : k < s.size) : ins s.data.toList p b (k + 1) = ins s.data.toList p b k ++ [s[k]] := by
  unfold ins
  rw [take_snoc s k h, List.drop_append_of_le_length (by simp; omega)]
  simp
theorem ins_end (l : List UInt8) (p : Nat) (b : UInt8) (k : Nat) (h : l.length ≤ k) : ins l p b k = l.take p ++ b :: l.drop p := by
  unfold ins; rw [List.take_of_length_le h]
theorem ins_length (l : List UInt8) (p : Nat) (b : UInt8) (k : Nat) (hp : p ≤ k) (hk : k ≤ l.length) : (ins l p b k).length = k + 1 := by
  unfold ins; simp; omega

set_option maxHeartbeats 800000 in
theorem insert_any (s : ByteArray) (p : Nat) (b : UInt8) (w : World) (hs : s.size ≤ 4096) (hp : p ≤ s.size) :
    Calls Tryf.prog 6 #[.string s, .int .i64 (p : Int), .int .u8 (b.toNat : Int)] w fun e w' =>
      e = .returned (.string ⟨(s.data.toList.take p ++ b :: s.data.toList.drop p).toArray⟩) ∧ Below w.heap.size w w' := by
  obtain ⟨i0, hi, hz0, hz1, hz2⟩ := info_parts info5
  go_enter Tryf.func6, Tryf.ntmps6
  go_wp2_with (at_make; refine wpList_make_own _ rfl _ _ 30 rfl w.heap.size 5 i0 (.int .u8 0) 1 Tryf.underlying30 hi hz0 hz1 _ _ _ (s.size + 1) rfl rfl (by omega) ?b2 ?b3 (Nat.le_refl _) ?_)
  case b2 => rw [hz2]; omega
  case b3 => unfold maxLen; omega
  intro w0 hown0 hgrow0
  have hnx0 : Below w.heap.size w w0 := (Below.refl _ _).grown hgrow0 (Nat.le_refl _) (fun k h => by cases h)
  clear hgrow0
  go_wp2
  go_loopw [7, 8] (fun v i wr => ∃ k : Nat, k ≤ p ∧ i = .int .i64 k ∧ v = .slice (some ⟨w.heap.size, 0, none⟩) k (s.size + 1) ∧ wr.ownsRow w.heap.size 5 1 (.slice (some ⟨w.heap.size, 0, none⟩) k (s.size + 1)) k (bc (s.data.toList.take k)) ∧ Below w.heap.size w wr) (fun _ i _ => p - (intOf i).toNat)
  case atStart => exact ⟨0, by omega, rfl, rfl, hown0, hnx0⟩
  case round =>
    clear hown0 hnx0
    obtain ⟨k, hk, rfl, rfl, hown, hnx⟩ := hrel
    have hsz := hnx.size
    by_cases hlt : k < p
    · have hks : k < s.size := by omega
      go_wp2_with (at_builtin; refine wpList_append_fits _ rfl (.tmp 19) (.tmp 23) 30 rfl w.heap.size 5 i0 1 Tryf.underlying30 hi hz1 w.heap.size k (s.size + 1) _ rfl (hown.alloc _) ⟨wr.heap.size, 0, none⟩ 1 1 [.int .u8 (s[k].toNat : Int)] rfl rfl one_new one_cell (by omega) ?_)
      intro w1 hown1 hgrow1
      have hnx1 : Below w.heap.size w w1 := (hnx.alloc hsz _).grown hgrow1 (by simp; omega) (fun k hk => by cases hk; exact Nat.le_refl _)
      rw [← bc_snoc, ← take_snoc s k hks] at hown1
      clear hown hgrow1
      go_wp2
      go_roundw
      case rel => exact ⟨k + 1, by omega, by go_num, rfl, hown1, hnx1⟩
      case measure => simp [intOf]; omega
    · obtain rfl : k = p := by omega
      clear hlt hk
      go_wp2_with (at_builtin; refine wpList_append_fits _ rfl (.tmp 25) (.tmp 27) 30 rfl w.heap.size 5 i0 1 Tryf.underlying30 hi hz1 w.heap.size k (s.size + 1) _ rfl (hown.alloc _) ⟨wr.heap.size, 0, none⟩ 1 1 [.int .u8 (b.toNat : Int)] rfl rfl one_new one_cell (by omega) ?_)
      intro w1 hown1 hgrow1
      have hnx1 : Below w.heap.size w w1 := (hnx.alloc hsz _).grown hgrow1 (by simp; omega) (fun k hk => by cases hk; exact Nat.le_refl _)
      rw [← bc_snoc, ← ins_start] at hown1
      clear hown hgrow1 hnx
      go_wp2
      go_loopw [7, 9] (fun v i wr => ∃ j : Nat, k ≤ j ∧ j ≤ s.size ∧ i = .int .i64 j ∧ v = .slice (some ⟨w.heap.size, 0, none⟩) (j + 1) (s.size + 1) ∧ wr.ownsRow w.heap.size 5 1 (.slice (some ⟨w.heap.size, 0, none⟩) (j + 1) (s.size + 1)) (j + 1) (bc (ins s.data.toList k b j)) ∧ Below w.heap.size w wr) (fun _ i _ => s.size - (intOf i).toNat)
      case atStart => exact ⟨k, by omega, hp, rfl, rfl, hown1, hnx1⟩
      case round =>
        clear hown1 hnx1 hsz
        obtain ⟨j, hkj, hj, rfl, rfl, hown, hnx⟩ := hrel
        have hsz := hnx.size
        by_cases hlt : j < s.size
        · go_wp2_with (at_builtin; refine wpList_append_fits _ rfl (.tmp 36) (.tmp 40) 30 rfl w.heap.size 5 i0 1 Tryf.underlying30 hi hz1 w.heap.size (j + 1) (s.size + 1) _ rfl (hown.alloc _) ⟨wr.heap.size, 0, none⟩ 1 1 [.int .u8 (s[j].toNat : Int)] rfl rfl one_new one_cell (by omega) ?_)
          intro w1 hown1 hgrow1
          have hnx1 : Below w.heap.size w w1 := (hnx.alloc hsz _).grown hgrow1 (by simp; omega) (fun k hk => by cases hk; exact Nat.le_refl _)
          rw [← bc_snoc, ← ins_snoc s k b j hkj hlt] at hown1
          clear hown hgrow1
          go_wp2
          go_roundw
          case rel => exact ⟨j + 1, by omega, by omega, by go_num, rfl, hown1, hnx1⟩
          case measure => simp [intOf]; omega
        · obtain rfl : j = s.size := by omega
          have hl := ins_length s.data.toList k b s.size hkj (by simp)
          have hcv := run_convert_bytes_back (P := Tryf.prog) wr 30 9 5 ⟨w.heap.size, 0, none⟩ (s.size + 1) (ins s.data.toList k b s.size) Tryf.underlying30 Tryf.underlying5 Tryf.underlying9
            (fun i hi => hown.cells (g := w.heap.size) rfl i _ (bc_get _ i hi))
          rw [hl, ins_end _ _ _ _ (by simp)] at hcv
          clear hown hl hlt hj
          go_wp2
          go_ret
          exact ⟨rfl, hnx⟩

end Go.Proofs.Qxb6619172aFmt
