/-
  The walks of (block).even and zzs2560cAllEqual.
-/
import Derived.Test.YbulkazzmRows
import Derived.WalkKit
import Derived.ProofKit
import Derived.OpenShut
import Derived.Below
import Derived.WalkSpells
namespace Go.Proofs.Ybulkazzm
open Go.ChangeShapes Go.WideShapes Go.ChangeAt Go.RowKit

/-- A slice of ints in memory: its elements are zs. -/
def Ints (w : World) (a : Option Addr) (zs : List Int) : Prop :=
  zs = [] ∨ ∃ b off, a = some ⟨b, off, none⟩ ∧ b < w.heap.size ∧ ∀ i, i < zs.length → w.cell? ⟨b, off + i, none⟩ = some (.int .i64 (zs.getD i 0))
theorem Ints.below {w w' : World} {a : Option Addr} {zs : List Int} (h : Ints w a zs) (hb : Below w.heap.size w w') : Ints w' a zs := by
  rcases h with h | ⟨b, off, rfl, hlt, hc⟩
  · exact .inl h
  · exact .inr ⟨b, off, rfl, Nat.lt_of_lt_of_le hlt hb.size, fun i hi => (hb.cell (p := ⟨b, off + i, none⟩) hlt).trans (hc i hi)⟩

/-- All are s. -/
def allEq (zs : List Int) (s : Int) : Bool := zs.all (· == s)
theorem allEq_false {zs : List Int} {s : Int} {k : Nat} (hk : k < zs.length) (h : zs.getD k 0 ≠ s) : allEq zs s = false := by
  unfold allEq
  rw [List.all_eq_false]
  refine ⟨zs[k], List.getElem_mem hk, ?_⟩
  simp [List.getD, List.getElem?_eq_getElem hk] at h
  simpa using h
theorem allEq_true {zs : List Int} {s : Int} (h : ∀ j, j < zs.length → zs.getD j 0 = s) : allEq zs s = true := by
  unfold allEq
  rw [List.all_eq_true]
  intro x hx
  obtain ⟨j, hj, rfl⟩ := List.getElem_of_mem hx
  have := h j hj
  simp [List.getD, List.getElem?_eq_getElem hj] at this
  simpa using this

set_option maxHeartbeats 400000 in
theorem even_some (b off cap len : Nat) (zs : List Int) (s : Int) (w : World) (hlen : zs.length = len) (hl : len ≤ 1024) (hb : b < w.heap.size) (hc : ∀ i, i < len → w.cell? ⟨b, off + i, none⟩ = some (.int .i64 (zs.getD i 0))) :
    Calls Yba.prog 15 #[.agg #[.int .i64 s, .slice (some ⟨b, off, none⟩) len cap]] w fun e w' => e = .returned (.bool (allEq zs s)) ∧ Below w.heap.size w w' := by
  have HL : Hid (zs.length = len) := hlen
  clear hlen
  go_enter Yba.func15, Yba.ntmps15
  go_wp2
  go_loop [8] (fun i => ∃ k : Nat, k ≤ len ∧ i = .int .i64 k ∧ ∀ j, j < k → zs.getD j 0 = s) (fun i => len - (intOf i).toNat)
  case atStart => exact ⟨0, Nat.zero_le _, rfl, fun j hj => by omega⟩
  case round =>
    obtain ⟨k, hk, rfl, hall⟩ := hrel
    by_cases hlt : k < len
    · have ck := hc k hlt
      obtain ⟨z, hz⟩ : ∃ z, zs.getD k 0 = z := ⟨_, rfl⟩
      rw [hz] at ck
      have HA : Hid ((∀ j, j < k → zs.getD j 0 = s) ∧ zs.getD k 0 = z) := ⟨hall, hz⟩
      clear hall hz hc
      by_cases hzs : z = s
      · subst hzs
        have t : (z != z) = false := by simp
        go_wp2
        go_round
        case rel => exact ⟨k + 1, by omega, by go_num, fun j hj => by by_cases e : j = k; · rw [e]; exact HA.out.2
                                                                      · exact HA.out.1 j (by omega)⟩
        case measure => simp [intOf]; omega
      · have t : (z != s) = true := by simpa using hzs
        have R : allEq zs s = false := allEq_false (k := k) (by rw [HL.out]; exact hlt) (by rw [HA.out.2]; exact hzs)
        go_wp2
        go_ret
        exact ⟨by first | rfl | rw [R], (Below.refl _ _).alloc (Nat.le_refl _) _⟩
    · have R : allEq zs s = true := allEq_true (fun j hj => hall j (by rw [HL.out] at hj; omega))
      clear hall hc
      go_wp2
      go_ret
      exact ⟨by first | rfl | rw [R], (Below.refl _ _).alloc (Nat.le_refl _) _⟩

theorem even_none (a : Option Addr) (cap : Nat) (s : Int) (w : World) :
    Calls Yba.prog 15 #[.agg #[.int .i64 s, .slice a 0 cap]] w fun e w' => e = .returned (.bool true) ∧ Below w.heap.size w w' := by
  go_enter Yba.func15, Yba.ntmps15
  go_wp2
  refine wp_loop_rounds 1 ?_
  rw [rounds_succ]
  go_wp2
  go_ret
  exact ⟨rfl, (Below.refl _ _).alloc (Nat.le_refl _) _⟩

/-- (block).even -/
theorem even_any (a : Option Addr) (cap : Nat) (zs : List Int) (s : Int) (w : World) (hl : zs.length ≤ 1024) (h : Ints w a zs) :
    Calls Yba.prog 15 #[.agg #[.int .i64 s, .slice a zs.length cap]] w fun e w' => e = .returned (.bool (allEq zs s)) ∧ Below w.heap.size w w' := by
  rcases h with rfl | ⟨b, off, rfl, hb, hc⟩
  · exact even_none a cap s w
  · exact even_some b off cap _ zs s w rfl hl hb hc

set_option maxHeartbeats 400000 in
theorem equal_some (b off cap len : Nat) (zs : List Int) (s : Int) (w : World) (hlen : zs.length = len) (hl : len ≤ 1024) (hc : ∀ i, i < len → w.cell? ⟨b, off + i, none⟩ = some (.int .i64 (zs.getD i 0))) :
    Calls Yba.prog 12 #[.slice (some ⟨b, off, none⟩) len cap, .int .i64 s] w fun e w' => e = .returned (.bool (allEq zs s)) ∧ w' = w := by
  have HL : Hid (zs.length = len) := hlen
  clear hlen
  go_enter Yba.func12, Yba.ntmps12
  go_wp2
  go_loop [5] (fun i => ∃ k : Nat, k ≤ len ∧ i = .int .i64 k ∧ ∀ j, j < k → zs.getD j 0 = s) (fun i => len - (intOf i).toNat)
  case atStart => exact ⟨0, Nat.zero_le _, rfl, fun j hj => by omega⟩
  case round =>
    obtain ⟨k, hk, rfl, hall⟩ := hrel
    by_cases hlt : k < len
    · have ck := hc k hlt
      obtain ⟨z, hz⟩ : ∃ z, zs.getD k 0 = z := ⟨_, rfl⟩
      rw [hz] at ck
      have HA : Hid ((∀ j, j < k → zs.getD j 0 = s) ∧ zs.getD k 0 = z) := ⟨hall, hz⟩
      clear hall hz hc
      by_cases hzs : z = s
      · subst hzs
        have t : (z != z) = false := by simp
        go_wp2
        go_round
        case rel => exact ⟨k + 1, by omega, by go_num, fun j hj => by by_cases e : j = k; · rw [e]; exact HA.out.2
                                                                      · exact HA.out.1 j (by omega)⟩
        case measure => simp [intOf]; omega
      · have t : (z != s) = true := by simpa using hzs
        have R : allEq zs s = false := allEq_false (k := k) (by rw [HL.out]; exact hlt) (by rw [HA.out.2]; exact hzs)
        go_wp2
        go_ret
        exact ⟨by first | rfl | rw [R], rfl⟩
    · have R : allEq zs s = true := allEq_true (fun j hj => hall j (by rw [HL.out] at hj; omega))
      clear hall hc
      go_wp2
      go_ret
      exact ⟨by first | rfl | rw [R], rfl⟩

theorem equal_none (a : Option Addr) (cap : Nat) (s : Int) (w : World) :
    Calls Yba.prog 12 #[.slice a 0 cap, .int .i64 s] w fun e w' => e = .returned (.bool true) ∧ w' = w := by
  go_enter Yba.func12, Yba.ntmps12
  go_wp2
  refine wp_loop_rounds 1 ?_
  rw [rounds_succ]
  go_wp2
  go_ret
  exact ⟨rfl, rfl⟩

/-- zzs2560cAllEqual -/
theorem equal_any (a : Option Addr) (cap : Nat) (zs : List Int) (s : Int) (w : World) (hl : zs.length ≤ 1024) (h : Ints w a zs) :
    Calls Yba.prog 12 #[.slice a zs.length cap, .int .i64 s] w fun e w' => e = .returned (.bool (allEq zs s)) ∧ w' = w := by
  rcases h with rfl | ⟨b, off, rfl, hb, hc⟩
  · exact equal_none a cap s w
  · exact equal_some b off cap _ zs s w rfl hl hc

/-- (cpuBalancing).repeats, of whatever task and cluster. -/
theorem repeats_any (v0 v1 v2 : Array Value) (a : Option Addr) (cap : Nat) (zs : List Int) (s blocks : Int) (w : World) (hl : zs.length ≤ 1024) (h : Ints w a zs) :
    Calls Yba.prog 11 #[.agg v0, .agg v1, .agg v2, .agg #[.int .i64 s, .slice a zs.length cap], .int .i64 blocks] w fun e w' => e = .returned (.int .i64 (if allEq zs s = true then blocks else 0)) ∧ Below w.heap.size w w' := by
  have hB4 : Below w.heap.size w ((((w.alloc (.cells v0 42)).alloc (.cells v1 49)).alloc (.cells v2 57)).alloc (.cells #[.int .i64 s, .slice a zs.length cap] 40)) :=
    ((((Below.refl _ w).alloc (Nat.le_refl _) _).alloc (by simp) _).alloc (by simp; omega) _).alloc (by simp; omega) _
  have HB : Hid (Below w.heap.size w ((((w.alloc (.cells v0 42)).alloc (.cells v1 49)).alloc (.cells v2 57)).alloc (.cells #[.int .i64 s, .slice a zs.length cap] 40))) := hB4
  clear hB4
  obtain ⟨q, hq⟩ : ∃ q, allEq zs s = q := ⟨_, rfl⟩
  rw [hq]
  have HQ : Hid (allEq zs s = q ∧ Ints w a zs) := ⟨hq, h⟩
  clear hq h
  cases q
  all_goals
    simp only [if_pos, Bool.false_eq_true, if_false]
    go_enter Yba.func11, Yba.ntmps11
    go_wp2_with fail
    refine (even_any a cap zs s _ hl (HQ.out.2.below HB.out)).mono ?_
    rw [HQ.out.1]
    rintro e w1 ⟨rfl, hb1⟩
    have hB1 : Below w.heap.size w w1 := HB.out.trans (hb1.mono (by simp; omega))
    clear hb1
    go_wp2
    go_ret
    exact ⟨rfl, hB1⟩

/-- .. with the answer of the test, and the length, under a name. -/
theorem repeats_at (v0 v1 v2 : Array Value) (a : Option Addr) (cap len : Nat) (zs : List Int) (s blocks r : Int) (w : World) (hlen : zs.length = len) (hl : len ≤ 1024) (h : Ints w a zs) (hr : (if allEq zs s = true then blocks else 0) = r) :
    Calls Yba.prog 11 #[.agg v0, .agg v1, .agg v2, .agg #[.int .i64 s, .slice a len cap], .int .i64 blocks] w fun e w' => e = .returned (.int .i64 r) ∧ Below w.heap.size w w' := by
  subst hlen
  subst hr
  exact repeats_any v0 v1 v2 a cap zs s blocks w hl h
end Go.Proofs.Ybulkazzm
