/-
  The two laws at every input: the early returns, and the walks of Qxb6619172aFmtLaws.lean.
-/
import Derived.Test.Qxb6619172aFmtLaws
namespace Go.Proofs.Qxb6619172aFmt
open Go.RowKit Go.Extern.Stop Go.Stop Go.Extern
set_option linter.unusedVariables false

theorem byte_of (n : Int) (h0 : 0 ≤ n) (h1 : n ≤ 255) : ∃ b : UInt8, n = (b.toNat : Int) := by
  refine ⟨UInt8.ofNat n.toNat, ?_⟩
  rw [UInt8.toNat_ofNat_of_lt' (by simp [UInt8.size]; omega)]
  omega

theorem insert_all (F : Interp) (s : ByteArray) (p n : Int) (w : World) (hF : F.answers w.tape) (hs : s.size ≤ maxLen) (h0 : 0 ≤ n) (h1 : n ≤ 255) :
    Calls Tryf.prog 3 #[.string s, .int .i64 p, .int .u8 n] w fun e w' => e = .returned (.bool true) ∧ Below w.heap.size w w' := by
  unfold maxLen at hs
  by_cases c1 : s.size ≤ 1048576
  · by_cases c2 : s.size ≤ 4096
    · by_cases c3 : p < 0
      · clear hF
        go_enter Tryf.func3, Tryf.ntmps3
        go_wp2
        go_ret
        exact ⟨rfl, Below.refl _ _⟩
      · by_cases c4 : (s.size : Int) < p
        · clear hF
          go_enter Tryf.func3, Tryf.ntmps3
          go_wp2
          go_ret
          exact ⟨rfl, Below.refl _ _⟩
        · obtain ⟨k, rfl⟩ := Int.eq_ofNat_of_zero_le (show 0 ≤ p by omega)
          obtain ⟨b, rfl⟩ := byte_of n h0 h1
          exact insert_law F s k b w hF c2 (by omega)
    · clear hF
      go_enter Tryf.func3, Tryf.ntmps3
      go_wp2
      go_ret
      exact ⟨rfl, Below.refl _ _⟩
  · clear hF
    go_enter Tryf.func3, Tryf.ntmps3
    go_wp2
    go_ret
    exact ⟨rfl, Below.refl _ _⟩

theorem replace_all (F : Interp) (s : ByteArray) (p n : Int) (w : World) (hF : F.answers w.tape) (hs : s.size ≤ maxLen) (h0 : 0 ≤ n) (h1 : n ≤ 255) :
    Calls Tryf.prog 4 #[.string s, .int .i64 p, .int .u8 n] w fun e w' => e = .returned (.bool true) ∧ Below w.heap.size w w' := by
  unfold maxLen at hs
  by_cases c1 : s.size ≤ 1048576
  · by_cases c2 : s.size ≤ 4096
    · by_cases c3 : p < 0
      · clear hF
        go_enter Tryf.func4, Tryf.ntmps4
        go_wp2
        go_ret
        exact ⟨rfl, Below.refl _ _⟩
      · by_cases c4 : (s.size : Int) ≤ p
        · clear hF
          go_enter Tryf.func4, Tryf.ntmps4
          go_wp2
          go_ret
          exact ⟨rfl, Below.refl _ _⟩
        · obtain ⟨k, rfl⟩ := Int.eq_ofNat_of_zero_le (show 0 ≤ p by omega)
          obtain ⟨b, rfl⟩ := byte_of n h0 h1
          have hk : k < s.size := by omega
          cases hne : ((b.toNat : Int) == (s[k].toNat : Int)) with
          | false => exact replace_law F s k b w hF c2 hk hne
          | true =>
            clear hF c4
            go_enter Tryf.func4, Tryf.ntmps4
            go_wp2
            go_ret
            exact ⟨rfl, Below.refl _ _⟩
    · clear hF
      go_enter Tryf.func4, Tryf.ntmps4
      go_wp2
      go_ret
      exact ⟨rfl, Below.refl _ _⟩
  · clear hF
    go_enter Tryf.func4, Tryf.ntmps4
    go_wp2
    go_ret
    exact ⟨rfl, Below.refl _ _⟩

end Go.Proofs.Qxb6619172aFmt
