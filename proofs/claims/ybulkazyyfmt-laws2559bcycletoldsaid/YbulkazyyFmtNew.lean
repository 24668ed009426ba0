/-
  The walk of NewExclusion: three rows and the struct, made in whatever order.
-/
import Derived.Test.YbulkazyyFmtMeth
import Derived.Deep.OwnRows
import Derived.BigRegion
import Derived.RegionTactic
namespace Go.Proofs.YbulkazyyFmt
open Go.ChangeShapes Go.WideShapes Go.ChangeAt Go.RowKit Go.Deep

theorem info4 : (Ybaf.prog.info? 4).map (fun i => (i.zero, i.size, i.bytes)) = some (some (.bool false), 1, 1) := by kernel_rfl

/-- 'make([]bool, n)': a new row of n times false. -/
theorem made (n : Nat) (hn : n ≤ 1000) (w : World) : (Instr.makeSlice 26 (.int .i64 (n : Int)) (.int .i64 (n : Int))).run Ybaf.prog w = .ok (.slice (some ⟨w.heap.size, 0, none⟩) n n) (w.alloc (.cells ((List.replicate n false).map Value.bool).toArray 4)) := by
  have h := run_make_row' (P := Ybaf.prog) 26 4 (.bool false) 1 Ybaf.underlying26 info4 rfl .i64 .i64 n (by omega) (by omega) w
  have e : (madeCells #[Value.bool false] n) = ((List.replicate n false).map Value.bool).toArray := by
    apply Array.toList_inj.1
    rw [toList_madeCells_one]
    simp
  rw [h, e]

set_option maxHeartbeats 1000000 in
theorem new_low (n own : Nat) (M : Array Value) (w : World) (_hn : n ≤ 1000) (ho : own < n)
    (hmk : ∀ w : World, (Instr.makeSlice 26 (.int .i64 (n : Int)) (.int .i64 (n : Int))).run Ybaf.prog w = .ok (.slice (some ⟨w.heap.size, 0, none⟩) n n) (w.alloc (.cells M 4))) :
    Calls Ybaf.prog 5 #[.int .i64 n, .int .i64 own] w fun e w' => ∃ g l d : Nat, e = .returned (.pointer (some ⟨w.heap.size + 3, 0, none⟩)) ∧
      (∃ k, w' = ((((w.alloc (.cells M 4)).alloc (.cells M 4)).alloc (.cells M 4)).alloc (.cells #[.int .i64 own, .int .u64 0, .int .i64 0, .bool false, .slice (some ⟨w.heap.size + g, 0, none⟩) n n, .int .i64 0, .slice (some ⟨w.heap.size + l, 0, none⟩) n n, .slice (some ⟨w.heap.size + d, 0, none⟩) n n] 43)).drewN k) ∧
      g < 3 ∧ l < 3 ∧ d < 3 ∧ g ≠ l ∧ g ≠ d ∧ l ≠ d := by
  go_enter Ybaf.func5, Ybaf.ntmps5
  go_wp2_with (go_at_call 12; refine (checkPlace_any _ _ _ _ (by omega) (by omega)).mono ?_; rintro e w' ⟨rfl, rfl⟩)
  go_region
  all_goals go_wp2
  all_goals go_ret
  all_goals first
    | exact ⟨0, 1, 2, rfl, ⟨1, rfl⟩, by decide, by decide, by decide, by decide, by decide, by decide⟩
    | exact ⟨0, 2, 1, rfl, ⟨1, rfl⟩, by decide, by decide, by decide, by decide, by decide, by decide⟩
    | exact ⟨1, 0, 2, rfl, ⟨1, rfl⟩, by decide, by decide, by decide, by decide, by decide, by decide⟩
    | exact ⟨1, 2, 0, rfl, ⟨1, rfl⟩, by decide, by decide, by decide, by decide, by decide, by decide⟩
    | exact ⟨2, 0, 1, rfl, ⟨1, rfl⟩, by decide, by decide, by decide, by decide, by decide, by decide⟩
    | exact ⟨2, 1, 0, rfl, ⟨1, rfl⟩, by decide, by decide, by decide, by decide, by decide, by decide⟩

theorem four_blocks (w : World) (M X : Obj) :
    ((((w.alloc M).alloc M).alloc M).alloc X).heap[w.heap.size + 3]? = some X ∧ ∀ j, j < 3 → ((((w.alloc M).alloc M).alloc M).alloc X).heap[w.heap.size + j]? = some M := by
  refine ⟨?_, fun j hj => ?_⟩
  · have h := heap_alloc_new (((w.alloc M).alloc M).alloc M) X
    have e : (((w.alloc M).alloc M).alloc M).heap.size = w.heap.size + 3 := by simp
    rwa [e] at h
  · show ((((w.heap.push M).push M).push M).push X)[w.heap.size + j]? = _
    simp only [Array.getElem?_push, Array.size_push]
    repeat' split
    all_goals first | rfl | (exfalso; omega)

/-- NewExclusion: an Exclusion in new memory, nothing asked, nobody has left. -/
theorem new_any (n own : Nat) (w : World) (hn : n ≤ 1000) (ho : own < n) :
    Calls Ybaf.prog 5 #[.int .i64 n, .int .i64 own] w fun e w' => ∃ x g l d : Nat, e = .returned (.pointer (some ⟨x, 0, none⟩)) ∧ Ex w' x g l d n own 0 0 false 0 (List.replicate n false) (List.replicate n false) ∧
      w.heap.size ≤ x ∧ w.heap.size ≤ g ∧ w.heap.size ≤ l ∧ w.heap.size ≤ d ∧ w'.heap.size = w.heap.size + 4 ∧ x < w.heap.size + 4 ∧ g < w.heap.size + 4 ∧ l < w.heap.size + 4 ∧ d < w.heap.size + 4 ∧ Below w.heap.size w w' := by
  refine (new_low n own _ w hn ho (made n hn)).mono ?_
  rintro e w' ⟨g, l, d, rfl, ⟨k, rfl⟩, hg, hl, hd, h1, h2, h3⟩
  obtain ⟨b3, bj⟩ := four_blocks w (.cells ((List.replicate n false).map Value.bool).toArray 4) (.cells #[.int .i64 own, .int .u64 0, .int .i64 0, .bool false, .slice (some ⟨w.heap.size + g, 0, none⟩) n n, .int .i64 0, .slice (some ⟨w.heap.size + l, 0, none⟩) n n, .slice (some ⟨w.heap.size + d, 0, none⟩) n n] 43)
  refine ⟨w.heap.size + 3, w.heap.size + g, w.heap.size + l, w.heap.size + d, rfl, ⟨b3, bj g hg, bj l hl, bj d hd, by simp, by simp, by omega⟩, by omega, by omega, by omega, by omega, ?_, by omega, by omega, by omega, by omega, ?_⟩
  · show ((((w.heap.push _).push _).push _).push _).size = _
    simp
  · exact (((((Below.refl _ w).alloc (Nat.le_refl _) _).alloc (by simp) _).alloc (by simp; omega) _).alloc (by simp; omega) _).trans ⟨rfl, rfl, rfl, Nat.le_refl _, fun _ _ => rfl⟩
end Go.Proofs.YbulkazyyFmt
