/-
  The walk of (Time).Add onto the zero time.
-/
import Derived.Test.YbulkbabcTime
import Derived.Deep.CutRange
namespace Go.Proofs.Ybulkbabc
set_option linter.unusedVariables false
open Go.ChangeShapes Go.WideShapes Go.ChangeAt Go.RowKit

theorem or_zero (x : Nat) (h : x < 1073741824) : bits .or .u64 0 (x : Int) = (x : Int) := by
  have h1 := u64_or_nat 0 x (by omega) (by omega)
  rwa [Nat.zero_or] at h1
theorem clear_zero : bits .andNot .u64 0 1073741823 = 0 := by
  have h1 := u64_andNot_nat 0 1073741823 (by omega) (by omega)
  rwa [Nat.zero_and] at h1

set_option maxHeartbeats 1000000 in
theorem add_up (n x : Int) (w : World) (hx0 : 0 ≤ x) (hx : x < 1000000000) (h0 : 0 ≤ n) (hn : n ≤ 9223372036854775807) (hr : n % 1000000000 = x)
    (h1 : bits .or .u64 0 x = x) (h2 : bits .andNot .u64 0 1073741823 = 0) (h3 : bits .and .u64 x 9223372036854775808 = 0) (h5 : bits .and .u64 0 1073741823 = 0) (h6 : bits .and .u64 0 9223372036854775808 = 0) :
    Calls Yba.prog 4 #[.agg #[.int .u64 0, .int .i64 0, .pointer none], .int .i64 n] w fun r w' => r = .returned (.agg #[.int .u64 x, .int .i64 (n / 1000000000), .pointer none]) ∧ Below w.heap.size w w' := by
  have hq1 : 0 ≤ n / 1000000000 := by omega
  have hq2 : n / 1000000000 ≤ 9223372036 := by omega
  by_cases hd : 0 < n / 1000000000
  all_goals
    go_enter Yba.func4, Yba.ntmps4
    go_wp2
    go_end0
    go_wp2
    exact bodyPost_ret (v := .agg #[.int .u64 x, .int .i64 (n / 1000000000), .pointer none]) (by simp [results, Yba.results4, go_sem]) rfl ⟨rfl, ((Below.refl _ w).alloc (Nat.le_refl _) _).alloc (by simp) _⟩

set_option maxHeartbeats 1000000 in
/-- A negative duration of whole seconds. -/
theorem add_whole (n q : Int) (w : World) (h0 : n < 0) (hn : -9223372036854775808 ≤ n) (hr : n.tmod 1000000000 = 0) (hq : n.tdiv 1000000000 = q) (hq1 : q < 0) (hq2 : -9223372036 ≤ q)
    (h1 : bits .or .u64 0 0 = 0) (h2 : bits .andNot .u64 0 1073741823 = 0) (h5 : bits .and .u64 0 1073741823 = 0) (h6 : bits .and .u64 0 9223372036854775808 = 0) :
    Calls Yba.prog 4 #[.agg #[.int .u64 0, .int .i64 0, .pointer none], .int .i64 n] w fun r w' => r = .returned (.agg #[.int .u64 0, .int .i64 q, .pointer none]) ∧ Below w.heap.size w w' := by
  go_enter Yba.func4, Yba.ntmps4
  go_wp2
  go_end0
  go_wp2
  exact bodyPost_ret (v := .agg #[.int .u64 0, .int .i64 q, .pointer none]) (by simp [results, Yba.results4, go_sem]) rfl ⟨rfl, ((Below.refl _ w).alloc (Nat.le_refl _) _).alloc (by simp) _⟩

set_option maxHeartbeats 1000000 in
/-- A negative duration with a rest. -/
theorem add_rest (n q x : Int) (w : World) (h0 : n < 0) (hn : -9223372036854775808 ≤ n) (hr : n.tmod 1000000000 = x - 1000000000) (hx0 : 0 < x) (hx : x < 1000000000) (hq : n.tdiv 1000000000 = q + 1) (hq1 : q < 0) (hq2 : -9223372038 ≤ q)
    (h1 : bits .or .u64 0 x = x) (h2 : bits .andNot .u64 0 1073741823 = 0) (h3 : bits .and .u64 x 9223372036854775808 = 0) (h5 : bits .and .u64 0 1073741823 = 0) (h6 : bits .and .u64 0 9223372036854775808 = 0) :
    Calls Yba.prog 4 #[.agg #[.int .u64 0, .int .i64 0, .pointer none], .int .i64 n] w fun r w' => r = .returned (.agg #[.int .u64 x, .int .i64 q, .pointer none]) ∧ Below w.heap.size w w' := by
  go_enter Yba.func4, Yba.ntmps4
  go_wp2
  go_end0
  go_wp2
  exact bodyPost_ret (v := .agg #[.int .u64 x, .int .i64 q, .pointer none]) (by simp [results, Yba.results4, go_sem]) rfl ⟨rfl, ((Below.refl _ w).alloc (Nat.le_refl _) _).alloc (by simp) _⟩

/-- (Time).Add onto the zero time: the seconds' sign is the duration's; it is the zero time again just for the duration 0. -/
theorem add_any (n : Int) (hn : -9223372036854775808 ≤ n ∧ n ≤ 9223372036854775807) :
    ∃ (x : Nat) (q : Int), x < 1073741824 ∧ (q < 0 ↔ n < 0) ∧ ((x = 0 ∧ q = 0) ↔ n = 0) ∧
      ∀ w, Calls Yba.prog 4 #[.agg #[.int .u64 0, .int .i64 0, .pointer none], .int .i64 n] w fun r w' => r = .returned (.agg #[.int .u64 x, .int .i64 q, .pointer none]) ∧ Below w.heap.size w w' := by
  have h2 := clear_zero
  have h5 : bits .and .u64 0 1073741823 = 0 := low_bits 0 (by omega)
  have h6 : bits .and .u64 0 9223372036854775808 = 0 := mono_bit 0 (by omega)
  have h7 : bits .or .u64 0 0 = 0 := or_zero 0 (by omega)
  by_cases h0 : 0 ≤ n
  · obtain ⟨x, hx⟩ := Int.eq_ofNat_of_zero_le (show 0 ≤ n % 1000000000 by omega)
    refine ⟨x, n / 1000000000, by omega, by omega, by omega, fun w => ?_⟩
    exact add_up n x w (by omega) (by omega) h0 hn.2 hx (or_zero x (by omega)) h2 (mono_bit x (by omega)) h5 h6
  · have e1 : n.tmod 1000000000 = -((-n) % 1000000000) := by
      have := Int.neg_tmod (-n) 1000000000
      rw [Int.neg_neg] at this
      rw [this, Int.tmod_eq_emod_of_nonneg (by omega)]
    have e2 : n.tdiv 1000000000 = -((-n) / 1000000000) := by
      have := Int.neg_tdiv (a := -n) (b := 1000000000)
      rw [Int.neg_neg] at this
      rw [this, Int.tdiv_eq_ediv_of_nonneg (by omega)]
    by_cases hr : (-n) % 1000000000 = 0
    · refine ⟨0, n / 1000000000, by omega, by omega, by omega, fun w => ?_⟩
      exact add_whole n (n / 1000000000) w (by omega) hn.1 (by rw [e1, hr]; rfl) (by rw [e2]; omega) (by omega) (by omega) h7 h2 h5 h6
    · obtain ⟨x, hx⟩ := Int.eq_ofNat_of_zero_le (show 0 ≤ n % 1000000000 by omega)
      refine ⟨x, n / 1000000000, by omega, by omega, by omega, fun w => ?_⟩
      exact add_rest n (n / 1000000000) x w (by omega) hn.1 (by rw [e1]; omega) (by omega) (by omega) (by rw [e2]; omega) (by omega) (by omega) (or_zero x (by omega)) h2 (mono_bit x (by omega)) h5 h6
end Go.Proofs.Ybulkbabc
