/-
  The walks of package time that the law comes to, at times without a monotonic reading.
-/
import Derived.Test.YbulkbabcRows
import Derived.WalkKit
import Derived.ProofKit
import Derived.OpenShut
import Derived.Below
import Derived.WalkSpells
import Derived.Laws.BitsAllLaws
namespace Go.Proofs.Ybulkbabc
open Go.ChangeShapes Go.WideShapes Go.ChangeAt Go.RowKit

/-- No monotonic bit. -/
theorem mono_bit (x : Nat) (h : x < 1073741824) : bits .and .u64 (x : Int) 9223372036854775808 = 0 := by
  have h1 := u64_and_nat x 9223372036854775808 (by omega) (by omega)
  have h2 : (x &&& 9223372036854775808 : Nat) = 0 := by
    have := nat_bit 63 x
    rw [show (2 : Nat) ^ 63 = 9223372036854775808 from rfl] at this
    rw [this, Nat.div_eq_of_lt (by omega)]
  rw [h2] at h1
  exact h1
theorem low_bits (x : Nat) (h : x < 1073741824) : bits .and .u64 (x : Int) 1073741823 = (x : Int) := by
  have h1 := u64_and_nat x 1073741823 (by omega) (by omega)
  have h2 : (x &&& 1073741823 : Nat) = x := by
    have := Nat.and_two_pow_sub_one_eq_mod x 30
    rw [show (2 : Nat) ^ 30 - 1 = 1073741823 from rfl, show (2 : Nat) ^ 30 = 1073741824 from rfl] at this
    rw [this, Nat.mod_eq_of_lt h]
  rw [h2] at h1
  exact h1

/-- (*Time).sec -/
theorem sec_any (b off x : Nat) (e : Int) (w : World) (hx : x < 1073741824) (c0 : w.cell? ⟨b, off, none⟩ = some (.int .u64 x)) (c1 : w.cell? ⟨b, off + 1, none⟩ = some (.int .i64 e)) :
    Calls Yba.prog 14 #[.pointer (some ⟨b, off, none⟩)] w fun r w' => r = .returned (.int .i64 e) ∧ w' = w := by
  have hb := mono_bit x hx
  go_enter Yba.func14, Yba.ntmps14
  go_wp2
  go_ret
  exact ⟨rfl, rfl⟩
/-- (*Time).nsec -/
theorem nsec_any (b off x : Nat) (w : World) (hx : x < 1073741824) (c0 : w.cell? ⟨b, off, none⟩ = some (.int .u64 x)) :
    Calls Yba.prog 8 #[.pointer (some ⟨b, off, none⟩)] w fun r w' => r = .returned (.int .i32 x) ∧ w' = w := by
  have hb := low_bits x hx
  go_enter Yba.func8, Yba.ntmps8
  go_wp2
  go_ret
  exact ⟨rfl, rfl⟩
theorem and_self (x : Nat) (h : x < 1073741824) : bits .and .u64 (x : Int) (x : Int) = (x : Int) := by
  have h1 := u64_and_nat x x (by omega) (by omega)
  rwa [Nat.and_self] at h1
theorem and_zero (x : Nat) (h : x < 1073741824) : bits .and .u64 (x : Int) 0 = 0 := by
  have h1 := u64_and_nat x 0 (by omega) (by omega)
  rwa [Nat.and_zero] at h1

set_option maxHeartbeats 400000 in
/-- (Time).Before the zero time. -/
theorem before_zero (x : Nat) (e : Int) (w : World) (hx : x < 1073741824) :
    Calls Yba.prog 13 #[.agg #[.int .u64 x, .int .i64 e, .pointer none], .agg #[.int .u64 0, .int .i64 0, .pointer none]] w fun r w' => r = .returned (.bool (decide (e < 0))) ∧ Below w.heap.size w w' := by
  have h1 := and_zero x hx
  have h2 : bits .and .u64 0 9223372036854775808 = 0 := mono_bit 0 (by omega)
  have h3 := mono_bit x hx
  have h4 := low_bits x hx
  have h5 : bits .and .u64 0 1073741823 = 0 := low_bits 0 (by omega)
  by_cases h0 : e < 0
  · have hd : decide (e < 0) = true := decide_eq_true h0
    rw [hd]
    go_enter Yba.func13, Yba.ntmps13
    go_wp2
    go_ret
    exact ⟨rfl, ((Below.refl _ w).alloc (Nat.le_refl _) _).alloc (by simp) _⟩
  · have hd : decide (e < 0) = false := decide_eq_false h0
    rw [hd]
    by_cases he : e = 0
    · subst he
      go_enter Yba.func13, Yba.ntmps13
      go_wp2
      go_ret
      exact ⟨rfl, ((Below.refl _ w).alloc (Nat.le_refl _) _).alloc (by simp) _⟩
    · have he' : (e == 0) = false := by simpa using he
      go_enter Yba.func13, Yba.ntmps13
      go_wp2
      go_ret
      exact ⟨rfl, ((Below.refl _ w).alloc (Nat.le_refl _) _).alloc (by simp) _⟩

set_option maxHeartbeats 400000 in
/-- (Time).Equal of a time to itself. -/
theorem equal_self (x : Nat) (e : Int) (w : World) (hx : x < 1073741824) :
    Calls Yba.prog 6 #[.agg #[.int .u64 x, .int .i64 e, .pointer none], .agg #[.int .u64 x, .int .i64 e, .pointer none]] w fun r w' => r = .returned (.bool true) ∧ Below w.heap.size w w' := by
  have h1 := and_self x hx
  have h3 := mono_bit x hx
  have h4 := low_bits x hx
  have t1 : (e == e) = true := by simp
  have t2 : ((x : Int) == (x : Int)) = true := by simp
  go_enter Yba.func6, Yba.ntmps6
  go_wp2
  go_ret
  exact ⟨rfl, ((Below.refl _ w).alloc (Nat.le_refl _) _).alloc (by simp) _⟩

/-- (Time).IsZero -/
theorem isZero_any (x : Nat) (e : Int) (w : World) (q : Bool) (hq : (((x : Int) == 0) && (e == 0)) = q) :
    Calls Yba.prog 15 #[.agg #[.int .u64 x, .int .i64 e, .pointer none]] w fun r w' => r = .returned (.bool q) ∧ Below w.heap.size w w' := by
  by_cases h0 : x = 0
  · subst h0
    have hq' : (e == 0) = q := by simpa using hq
    clear hq
    go_enter Yba.func15, Yba.ntmps15
    go_wp2
    go_ret
    exact ⟨by rw [← hq']; rfl, (Below.refl _ w).alloc (Nat.le_refl _) _⟩
  · have t : ((x : Int) == 0) = false := by simpa using h0
    rw [t] at hq
    subst hq
    go_enter Yba.func15, Yba.ntmps15
    go_wp2
    go_ret
    exact ⟨rfl, (Below.refl _ w).alloc (Nat.le_refl _) _⟩

set_option maxHeartbeats 400000 in
/-- (*Time).addSec onto second 0. -/
theorem addSec_any (b off x : Nat) (d : Int) (w : World) (hx : x < 1073741824) (hd1 : -9223372036854775807 ≤ d) (hd2 : d ≤ 9223372036854775806) (c0 : w.cell? ⟨b, off, none⟩ = some (.int .u64 x)) (c1 : w.cell? ⟨b, off + 1, none⟩ = some (.int .i64 0)) (f1 : w.frozen? ⟨b, off + 1, none⟩ = false) :
    Calls Yba.prog 9 #[.pointer (some ⟨b, off, none⟩), .int .i64 d] w fun r w' => r = .returned (.tuple #[]) ∧ w' = w.setCell ⟨b, off + 1, none⟩ (.int .i64 d) := by
  have h3 := mono_bit x hx
  by_cases h0 : 0 < d
  · go_enter Yba.func9, Yba.ntmps9
    go_wp2
    go_end0
    exact ⟨rfl, rfl⟩
  · go_enter Yba.func9, Yba.ntmps9
    go_wp2
    go_end0
    exact ⟨rfl, rfl⟩

end Go.Proofs.Ybulkbabc
