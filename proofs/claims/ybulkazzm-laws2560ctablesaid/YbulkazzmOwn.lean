/-
  A row of ints that the call itself makes.
-/
import Derived.Test.YbulkazzmEqual
import Derived.Deep.OwnRows
import Derived.Laws.Rows
namespace Go.Proofs.Ybulkazzm
open Go.ChangeShapes Go.WideShapes Go.ChangeAt Go.RowKit Go.Deep

theorem info3 : (Yba.prog.info? 3).map (fun i => (i.zero, i.size, i.bytes)) = some (some (.int .i64 0), 1, 8) := by kernel_rfl
/-- 'make([]int, n)': a new row of n noughts. -/
theorem made (n : Nat) (hn : n ≤ 2000) (w : World) : (Instr.makeSlice 38 (.int .i64 (n : Int)) (.int .i64 (n : Int))).run Yba.prog w = .ok (.slice (some ⟨w.heap.size, 0, none⟩) n n) (w.alloc (.cells ((List.replicate n (0 : Int)).map (Value.int .i64)).toArray 3)) := by
  have h := run_make_row' (P := Yba.prog) 38 3 (.int .i64 0) 8 Yba.underlying38 info3 rfl .i64 .i64 n (by omega) (by omega) w
  have e : (madeCells #[Value.int .i64 0] n) = ((List.replicate n (0 : Int)).map (Value.int .i64)).toArray := by
    apply Array.toList_inj.1
    rw [toList_madeCells_one]
    simp
  rw [h, e]

/-- The row of the call's own: its block whole. -/
def IRow (w : World) (b : Nat) (zs : List Int) : Prop := w.heap[b]? = some (.cells (zs.map (Value.int .i64)).toArray 3 (0, 0))
theorem IRow.cell {w : World} {b : Nat} {zs : List Int} (h : IRow w b zs) (i : Nat) (hi : i < zs.length) : w.cell? ⟨b, i, none⟩ = some (.int .i64 (zs.getD i 0)) := by
  rw [cell_of_row w b i _ 3 (0, 0) h]
  simp [hi]
theorem IRow.free {w : World} {b : Nat} {zs : List Int} (h : IRow w b zs) (i : Nat) : w.frozen? ⟨b, i, none⟩ = false := frozen_of_row w b i _ 3 h
theorem IRow.set {w : World} {b : Nat} {zs : List Int} (h : IRow w b zs) (i : Nat) (v : Int) : IRow (w.setCell ⟨b, i, none⟩ (.int .i64 v)) b (zs.set i v) := by
  have := heap_setCell_same w b i _ 3 (.int .i64 v) h
  unfold IRow
  rw [this]
  simp [List.map_set]
theorem IRow.ints {w : World} {b : Nat} {zs : List Int} (h : IRow w b zs) : Ints w (some ⟨b, 0, none⟩) zs :=
  .inr ⟨b, 0, rfl, lt_of_block h, fun i hi => by rw [Nat.zero_add]; exact h.cell i hi⟩

end Go.Proofs.Ybulkazzm
