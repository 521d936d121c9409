/-
  fmt.Fprintf (20) onto the builder, fmt's text being whatever F gives.
-/
import Derived.Test.Qxb6614934aFmtFacts
import Derived.Test.Qxb6614934aFmtBuild
import Derived.Laws.IdiomStrings
namespace Go.Proofs.Qxb6614934aFmt
open Go.RowKit Go.Extern.Stop Go.Stop Go.Extern Go.Kit
set_option linter.unusedVariables false
set_option maxRecDepth 100000
attribute [local go_sem] call32 guard fmt0 fmt0r op5_111 strict5

theorem builderAt_alloc {T e : TypeId} {B b : Nat} {p : Value} {bs : List Value} {w : World} (h : Lib.BuilderAt T e B b p bs w) (o : Obj) : Lib.BuilderAt T e B b p bs (w.alloc o) := by
  have hlt := h.lt
  obtain ⟨hB, v, hb, hown, hne⟩ := h
  exact ⟨hB, v, (Lib.alloc_old w o b hlt).trans hb, hown.alloc o, hne⟩
theorem isBuilder_alloc {T e : TypeId} {B b : Nat} {bs : List Value} {w : World} (h : Lib.IsBuilder T e B b bs w) (o : Obj) : Lib.IsBuilder T e B b bs (w.alloc o) := by
  rcases h with h | h
  · exact Or.inl (builderAt_alloc h o)
  · exact Or.inr (builderAt_alloc h o)
theorem isBuilder_lt {T e : TypeId} {B b : Nat} {bs : List Value} {w : World} (h : Lib.IsBuilder T e B b bs w) : b < w.heap.size := by
  rcases h with h | h
  · exact h.lt
  · exact h.lt

/-- The cells that '[]byte(s)' lays. -/
theorem bytesRow_cells (w : World) (s : ByteArray) (cap : Nat) (fr : Nat × Nat) : ∀ j u, (Lib.byteCells s.data.toList)[j]? = some u → (w.alloc (.cells (bytesRow s cap) 5 fr)).drew.drew.cell? ((⟨w.heap.size, 0, none⟩ : Addr).add j) = some u := by
  intro j u hj
  have hlt : j < s.data.toList.length := by
    rcases Nat.lt_or_ge j s.data.toList.length with h | h
    · exact h
    · rw [List.getElem?_eq_none (by rw [Lib.byteCells_length]; exact h)] at hj; cases hj
  have hplain : (⟨w.heap.size, 0, none⟩ : Addr).add j = ⟨w.heap.size, j, none⟩ := by unfold Addr.add; split <;> simp_all
  rw [hplain]
  show (w.alloc (.cells (bytesRow s cap) 5 fr)).cell? ⟨w.heap.size, j, none⟩ = some u
  rw [World.cell?_alloc_mark, ← hj]
  unfold bytesRow Lib.byteCells
  have hlt' : j < s.data.size := by simpa using hlt
  rw [Array.getElem?_append_left (by simpa using hlt')]
  simp
theorem byteCells_one (l : List UInt8) : ∀ u ∈ Lib.byteCells l, u.oneCell' = true := by
  intro u hu
  unfold Lib.byteCells at hu
  rw [List.mem_map] at hu
  obtain ⟨x, _, rfl⟩ := hu
  rfl

theorem method_write (b : Nat) (w : World) : (method 241 42 (.pointer (some ⟨b, 0, none⟩)) "Write").run Tryf.prog w = .ok (66, .pointer (some ⟨b, 0, none⟩)) w := by kernel_rfl

set_option maxHeartbeats 1000000 in
theorem fprintf_any (F : Interp) (B b blk : Nat) (l : List UInt8) (c : Int) (w : World) (h : Lib.IsBuilder 45 5 B b (Lib.byteCells l) w) (hF : F.answers w.tape)
    (hc : w.cell? ⟨blk, 0, none⟩ = some (.iface 5 (.int .u8 c))) (hlen : l.length + (FmtStop.textOf (F "fmt.Sprintf" (rd c) 0)).data.toList.length ≤ 140737488355328) (hBw : B ≤ w.heap.size) :
    Calls Tryf.prog 20 #[.iface 42 (.pointer (some ⟨b, 0, none⟩)), .string ⟨#[92, 37, 48, 51, 111]⟩, .slice (some ⟨blk, 0, none⟩) 1 1] w fun e w' =>
      (∃ N : Int, e = .returned (.tuple #[.int .i64 N, .nilIface])) ∧ Lib.BuilderAt 45 5 B b (.pointer (some ⟨b, 0, none⟩)) (Lib.byteCells (l ++ (FmtStop.textOf (F "fmt.Sprintf" (rd c) 0)).data.toList)) w' ∧ Below B w w' := by
  have hF' := answers_open hF
  have hcv2 := fun w s => run_bytes_of_string (P := Tryf.prog) w 9 43 5 s Tryf.underlying9 Tryf.underlying43 Tryf.underlying5
  have hm := method_write b
  have HB : Hid (Lib.IsBuilder 45 5 B b (Lib.byteCells l) w) := h
  have HL : Hid (l.length + (FmtStop.textOf (F "fmt.Sprintf" (rd c) 0)).data.toList.length ≤ 140737488355328) := hlen
  clear h hlen
  go_enter Tryf.func20, Tryf.ntmps20
  go_wp2_with fail
  generalize hT : FmtStop.textOf (F "fmt.Sprintf" [[92, 37, 48, 51, 111], shape5, digits 8 (c % 18446744073709551616).toNat] 0) = T
  generalize grownCap w.drew T.size 0 5 = cap
  have hT' : FmtStop.textOf (F "fmt.Sprintf" (rd c) 0) = T := hT
  have hl2 : l.length + T.data.toList.length ≤ 140737488355328 := by rw [← hT']; exact HL.out
  have hsz : T.data.toList.length = T.size := by simp
  have HT : Hid (FmtStop.textOf (F "fmt.Sprintf" (rd c) 0) = T) := hT'
  clear hT hT' HL
  refine (write_any B b (Lib.byteCells l) ⟨w.heap.size, 0, none⟩ T.size cap (Lib.byteCells T.data.toList) _ (by exact isBuilder_alloc HB.out _) (by rw [Lib.byteCells_length]; exact hsz) (by exact bytesRow_cells w T cap _) (by have := isBuilder_lt HB.out; show w.heap.size ≠ b; omega) (byteCells_one _) (by rw [Lib.byteCells_length]; omega) (by simp; omega)).mono ?_
  rintro e w2 ⟨rfl, hB2, hb2⟩
  have HB2 : Hid (Lib.BuilderAt 45 5 B b (.pointer (some ⟨b, 0, none⟩)) (Lib.byteCells l ++ Lib.byteCells T.data.toList) w2) := hB2
  clear hB2 HB
  go_wp2
  go_ret2
  refine ⟨⟨_, rfl⟩, ?_, ?_⟩
  · rw [HT.out, Lib.byteCells_append]; exact HB2.out
  · exact Below.trans (b := (w.alloc (.cells (bytesRow T cap) 5 ((bytesRow T cap).size, (bytesRow T cap).size + 1))).drew.drew) (((Below.refl B w).alloc hBw _).drew.drew) hb2

end Go.Proofs.Qxb6614934aFmt
