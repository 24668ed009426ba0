/-
  The walk of (Group).Extends, of a group of one task.
-/
import Derived.Test.YbulkazzmRows
import Derived.WalkKit
import Derived.ProofKit
import Derived.Below
import Derived.WalkSpells
import Derived.Deep.QuietTactic
import Derived.BigQuiet
namespace Go.Proofs.Ybulkazzm
open Go.ChangeShapes Go.WideShapes Go.ChangeAt Go.RowKit

set_option maxHeartbeats 400000 in
/-- One task kept so far: the step is set. -/
theorem extends_one (nd gf f st : Int) (w : World) :
    Calls Yba.prog 16 #[.agg #[.int .i64 nd, .int .i64 gf, .int .i64 0, .int .i64 1], .int .i64 f, .int .i64 st, .int .i64 1] w
      fun e w' => e = .returned (.tuple #[.int .i64 (wrap64 (gf - f)), .bool true]) ∧ Below w.heap.size w w' := by
  go_enter Yba.func16, Yba.ntmps16
  go_wp2
  go_quiet (fail)
  go_wp2
  go_ret2
  exact ⟨rfl, ((Below.refl _ w).alloc (Nat.le_refl _) _).trans ⟨rfl, rfl, rfl, Nat.le_refl _, fun _ _ => rfl⟩⟩

set_option maxHeartbeats 400000 in
/-- Several, and the task follows. -/
theorem extends_yes (nd gf f st c : Int) (w : World) (hc : (c == 1) = false) (hg : (gf != wrap64 (f + wrap64 (c * st))) = false) :
    Calls Yba.prog 16 #[.agg #[.int .i64 nd, .int .i64 gf, .int .i64 0, .int .i64 1], .int .i64 f, .int .i64 st, .int .i64 c] w
      fun e w' => e = .returned (.tuple #[.int .i64 st, .bool true]) ∧ Below w.heap.size w w' := by
  go_enter Yba.func16, Yba.ntmps16
  go_wp2
  go_quiet (fail)
  go_wp2
  go_ret2
  exact ⟨rfl, ((Below.refl _ w).alloc (Nat.le_refl _) _).trans ⟨rfl, rfl, rfl, Nat.le_refl _, fun _ _ => rfl⟩⟩

set_option maxHeartbeats 400000 in
/-- Several, and the task does not follow. -/
theorem extends_no (nd gf f st c : Int) (w : World) (hc : (c == 1) = false) (hg : (gf != wrap64 (f + wrap64 (c * st))) = true) :
    Calls Yba.prog 16 #[.agg #[.int .i64 nd, .int .i64 gf, .int .i64 0, .int .i64 1], .int .i64 f, .int .i64 st, .int .i64 c] w
      fun e w' => e = .returned (.tuple #[.int .i64 st, .bool false]) ∧ Below w.heap.size w w' := by
  go_enter Yba.func16, Yba.ntmps16
  go_wp2
  go_ret2
  exact ⟨rfl, (Below.refl _ w).alloc (Nat.le_refl _) _⟩
end Go.Proofs.Ybulkazzm
