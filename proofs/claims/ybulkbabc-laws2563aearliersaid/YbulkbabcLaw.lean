/-
  The walks of the three Deadlines, and what the law makes.
-/
import Derived.Test.YbulkbabcAdd
import Derived.Deep.QuietTactic
import Derived.BigQuiet
namespace Go.Proofs.Ybulkbabc
open Go.ChangeShapes Go.WideShapes Go.ChangeAt Go.RowKit

/-- The cells of an aggregate that an operation gave. -/
def cellsGiven : Result Value → Array Value
  | .ok (.agg c) _ => c
  | _ => #[]
/-- '&election.Machine{}': the cells of the zero machine that Deadline reads. -/
theorem machine_zero : ∃ Z : Array Value, (∀ w, (Instr.build 77 #[]).run Yba.prog w = .ok (.agg Z) w) ∧ Z[11]? = some (.int .i64 0) ∧ Z[12]? = some (.string ⟨#[]⟩) ∧
    Z[40]? = some (.int .u64 0) ∧ Z[41]? = some (.int .i64 0) ∧ Z[42]? = some (.pointer none) ∧ Z[49]? = some (.pointer none) :=
  ⟨cellsGiven ((Instr.build 77 #[]).run Yba.prog default), fun w => by kernel_rfl, by kernel_rfl, by kernel_rfl, by kernel_rfl, by kernel_rfl, by kernel_rfl, by kernel_rfl⟩
/-- '&lease.Table{}' -/
theorem table_zero : ∃ Z : Array Value, (∀ w, (Instr.build 50 #[]).run Yba.prog w = .ok (.agg Z) w) ∧ Z[1]? = some (.slice none 0 0) :=
  ⟨cellsGiven ((Instr.build 50 #[]).run Yba.prog default), fun w => by kernel_rfl, by kernel_rfl⟩
/-- '&desk{from: from}' -/
theorem desk_made : ∃ D : Int → Int → Value → Array Value, (∀ x q p w, (Instr.build 40 #[(4, .agg #[.int .u64 x, .int .i64 q, .pointer p])]).run Yba.prog w = .ok (.agg (D x q (.pointer p))) w) ∧
    ∀ x q p, (D x q p)[4]? = some (.int .u64 x) ∧ (D x q p)[5]? = some (.int .i64 q) ∧ (D x q p)[6]? = some p ∧ (D x q p)[7]? = some (.pointer none) := by
  refine ⟨fun x q p => cellsGiven ((Instr.build 40 #[(4, .agg #[.int .u64 x, .int .i64 q, p])]).run Yba.prog default), fun x q p w => by kernel_rfl, fun x q p => ⟨?_, ?_, ?_, ?_⟩⟩
  all_goals kernel_rfl
/-- '&Replica{machine: .., desk: ..}' -/
theorem replica_made : ∃ R : Addr → Addr → Array Value, (∀ a b w, (Instr.build 88 #[(2, .pointer (some a)), (3, .pointer (some b))]).run Yba.prog w = .ok (.agg (R a b)) w) ∧
    ∀ a b, (R a b)[15]? = some (.pointer (some a)) ∧ (R a b)[16]? = some (.pointer (some b)) := by
  refine ⟨fun a b => cellsGiven ((Instr.build 88 #[(2, .pointer (some a)), (3, .pointer (some b))]).run Yba.prog default), fun a b w => by kernel_rfl, fun a b => ⟨?_, ?_⟩⟩
  all_goals kernel_rfl

theorem drewN_below {B : Nat} {a w : World} (h : Below B a w) (k : Nat) : Below B a (w.drewN k) := ⟨h.os, h.tape, h.output, h.size, h.block⟩

set_option maxHeartbeats 400000 in
/-- (*Machine).Deadline of an idle follower: the zero time. -/
theorem machine_any (m : Nat) (w : World) (hm : m < w.heap.size) (c1 : w.cell? ⟨m, 11, none⟩ = some (.int .i64 0)) (c2 : w.cell? ⟨m, 12, none⟩ = some (.string ⟨#[]⟩)) (c3 : w.cell? ⟨m, 40, none⟩ = some (.int .u64 0)) (c4 : w.cell? ⟨m, 41, none⟩ = some (.int .i64 0)) (c5 : w.cell? ⟨m, 42, none⟩ = some (.pointer none)) (c6 : w.cell? ⟨m, 49, none⟩ = some (.pointer none)) :
    Calls Yba.prog 11 #[.pointer (some ⟨m, 0, none⟩)] w fun r w' => r = .returned (.agg #[.int .u64 0, .int .i64 0, .pointer none]) ∧ Below w.heap.size w w' := by
  have hm1 : m < w.heap.size + 1 := by omega
  go_enter Yba.func11, Yba.ntmps11
  go_wp2
  go_quiet (fail)
  go_wp2
  go_quiet (fail)
  go_wp2
  refine bodyPost_ret (v := .agg #[.int .u64 0, .int .i64 0, .pointer none]) (by simp [results, Yba.results11, go_sem]) rfl ⟨rfl, ?_⟩
  exact ((drewN_below (((Below.refl _ w).alloc (Nat.le_refl _) _).alloc (by simp) _) _).setCell (p := ⟨w.heap.size, 0, none⟩) (Nat.le_refl _) _).setCell (p := ⟨w.heap.size, 1, none⟩) (Nat.le_refl _) _ |>.setCell (p := ⟨w.heap.size, 2, none⟩) (Nat.le_refl _) _

set_option maxHeartbeats 400000 in
/-- (*desk).deadline without a table. -/
theorem desk_none (d : Nat) (w : World) (hd : d < w.heap.size) (c7 : w.cell? ⟨d, 7, none⟩ = some (.pointer none)) :
    Calls Yba.prog 12 #[.pointer (some ⟨d, 0, none⟩)] w fun r w' => r = .returned (.tuple #[.agg #[.int .u64 0, .int .i64 0, .pointer none], .bool false]) ∧ Below w.heap.size w w' := by
  go_enter Yba.func12, Yba.ntmps12
  go_wp2
  exact bodyPost_ret (v := .tuple #[.agg #[.int .u64 0, .int .i64 0, .pointer none], .bool false]) (by simp [results, Yba.results12, go_sem]) rfl ⟨rfl, (Below.refl _ w).alloc (Nat.le_refl _) _⟩

set_option maxHeartbeats 400000 in
/-- (*Table).Deadline of an empty table. -/
theorem table_any (t : Nat) (w : World) (ht : t < w.heap.size) (c1 : w.cell? ⟨t, 1, none⟩ = some (.slice none 0 0)) :
    Calls Yba.prog 17 #[.pointer (some ⟨t, 0, none⟩)] w fun r w' => r = .returned (.tuple #[.agg #[.int .u64 0, .int .i64 0, .pointer none], .bool false]) ∧ Below w.heap.size w w' := by
  go_enter Yba.func17, Yba.ntmps17
  go_wp2
  exact bodyPost_ret (v := .tuple #[.agg #[.int .u64 0, .int .i64 0, .pointer none], .bool false]) (by simp [results, Yba.results17, go_sem]) rfl ⟨rfl, (Below.refl _ w).alloc (Nat.le_refl _) _⟩

theorem bcell {W w1 : World} {B : Nat} (hb : Below B W w1) : (∀ b o, b < B → w1.cell? ⟨b, o, none⟩ = W.cell? ⟨b, o, none⟩) ∧ (∀ b o, b < B → w1.frozen? ⟨b, o, none⟩ = W.frozen? ⟨b, o, none⟩) :=
  ⟨fun b o h => hb.cell (p := ⟨b, o, none⟩) h, fun b o h => hb.frozen (p := ⟨b, o, none⟩) h⟩

set_option maxHeartbeats 1000000 in
/-- (*desk).deadline with a table, in its hold. -/
theorem desk_hold (d t x : Nat) (q : Int) (w : World) (hd : d < w.heap.size) (hz : (((x : Int) == 0) && (q == 0)) = false) (c4 : w.cell? ⟨d, 4, none⟩ = some (.int .u64 x)) (c5 : w.cell? ⟨d, 5, none⟩ = some (.int .i64 q)) (c6 : w.cell? ⟨d, 6, none⟩ = some (.pointer none)) (c7 : w.cell? ⟨d, 7, none⟩ = some (.pointer (some ⟨t, 0, none⟩))) :
    Calls Yba.prog 12 #[.pointer (some ⟨d, 0, none⟩)] w fun r w' => r = .returned (.tuple #[.agg #[.int .u64 x, .int .i64 q, .pointer none], .bool true]) ∧ Below w.heap.size w w' := by
  have HZ : Hid ((((x : Int) == 0) && (q == 0)) = false) := hz
  clear hz
  have hd1 : d < w.heap.size + 1 := by omega
  go_enter Yba.func12, Yba.ntmps12
  go_wp2_with (go_at_call 15; refine (isZero_any x q _ false HZ.out).mono ?_; rintro r w1 ⟨rfl, hb1⟩; obtain ⟨hc, hf⟩ := bcell hb1; have hz1 : w.heap.size < w1.heap.size := (by have := hb1.size; simp at this; omega); have HB1 : Hid _ := hb1; clear hb1)
  have e0 : w1.cell? ⟨w.heap.size, 0, none⟩ = some (.int .u64 0) := (hc _ _ (by simp)).trans (by simp)
  have e1 : w1.cell? ⟨w.heap.size, 1, none⟩ = some (.int .i64 0) := (hc _ _ (by simp)).trans (by simp)
  have e2 : w1.cell? ⟨w.heap.size, 2, none⟩ = some (.pointer none) := (hc _ _ (by simp)).trans (by simp)
  refine bodyPost_ret (v := .tuple #[.agg #[.int .u64 x, .int .i64 q, .pointer none], .bool true]) (by simp [results, Yba.results12, go_sem, e0, e1, e2]) rfl ⟨rfl, ?_⟩
  exact ((((Below.refl _ w).alloc (Nat.le_refl _) _).trans (HB1.out.mono (by simp))).setCell (p := ⟨w.heap.size, 0, none⟩) (Nat.le_refl _) _).setCell (p := ⟨w.heap.size, 1, none⟩) (Nat.le_refl _) _ |>.setCell (p := ⟨w.heap.size, 2, none⟩) (Nat.le_refl _) _

set_option maxHeartbeats 1000000 in
/-- (*desk).deadline with an empty table, behind its hold. -/
theorem desk_zero (d t : Nat) (w : World) (hd : d < w.heap.size) (ht : t < w.heap.size) (c4 : w.cell? ⟨d, 4, none⟩ = some (.int .u64 0)) (c5 : w.cell? ⟨d, 5, none⟩ = some (.int .i64 0)) (c6 : w.cell? ⟨d, 6, none⟩ = some (.pointer none)) (c7 : w.cell? ⟨d, 7, none⟩ = some (.pointer (some ⟨t, 0, none⟩)))
    (g1 : w.cell? ⟨t, 1, none⟩ = some (.slice none 0 0)) :
    Calls Yba.prog 12 #[.pointer (some ⟨d, 0, none⟩)] w fun r w' => r = .returned (.tuple #[.agg #[.int .u64 0, .int .i64 0, .pointer none], .bool false]) ∧ Below w.heap.size w w' := by
  have hd1 : d < w.heap.size + 1 := by omega
  go_enter Yba.func12, Yba.ntmps12
  go_wp2_with fail
  refine (isZero_any 0 0 _ true (by simp)).mono ?_
  rintro r w1 ⟨rfl, hb1⟩
  obtain ⟨hc, hf⟩ := bcell hb1
  have k7 : w1.cell? ⟨d, 7, none⟩ = some (.pointer (some ⟨t, 0, none⟩)) := (hc _ _ (by simp; omega)).trans ((World.cell?_alloc_past _ _ _ hd).trans c7)
  have kt : w1.cell? ⟨t, 1, none⟩ = some (.slice none 0 0) := (hc _ _ (by simp; omega)).trans ((World.cell?_alloc_past _ _ _ ht).trans g1)
  have e0 : w1.cell? ⟨w.heap.size, 0, none⟩ = some (.int .u64 0) := (hc _ _ (by simp)).trans (by simp)
  have e1 : w1.cell? ⟨w.heap.size, 1, none⟩ = some (.int .i64 0) := (hc _ _ (by simp)).trans (by simp)
  have e2 : w1.cell? ⟨w.heap.size, 2, none⟩ = some (.pointer none) := (hc _ _ (by simp)).trans (by simp)
  have z0 : w1.frozen? ⟨w.heap.size, 0, none⟩ = false := (hf _ _ (by simp)).trans (by simp)
  have z1 : w1.frozen? ⟨w.heap.size, 1, none⟩ = false := (hf _ _ (by simp)).trans (by simp)
  have z2 : w1.frozen? ⟨w.heap.size, 2, none⟩ = false := (hf _ _ (by simp)).trans (by simp)
  have hs1 : w.heap.size < w1.heap.size := by have := hb1.size; simp at this; omega
  have HB1 : Hid (Below w.heap.size w w1) := ((Below.refl _ w).alloc (Nat.le_refl _) _).trans (hb1.mono (by simp))
  clear hb1 hc hf c4 c5 c6 c7 g1
  go_wp2_with fail
  refine (table_any t w1 (by omega) kt).mono ?_
  rintro r w2 ⟨rfl, hb2⟩
  obtain ⟨hc, hf⟩ := bcell hb2
  have e0' : w2.cell? ⟨w.heap.size, 0, none⟩ = some (.int .u64 0) := (hc _ _ hs1).trans e0
  have e1' : w2.cell? ⟨w.heap.size, 1, none⟩ = some (.int .i64 0) := (hc _ _ hs1).trans e1
  have e2' : w2.cell? ⟨w.heap.size, 2, none⟩ = some (.pointer none) := (hc _ _ hs1).trans e2
  have z0' : w2.frozen? ⟨w.heap.size, 0, none⟩ = false := (hf _ _ hs1).trans z0
  have z1' : w2.frozen? ⟨w.heap.size, 1, none⟩ = false := (hf _ _ hs1).trans z1
  have z2' : w2.frozen? ⟨w.heap.size, 2, none⟩ = false := (hf _ _ hs1).trans z2
  have HB2 : Hid (Below w.heap.size w w2) := HB1.out.trans (hb2.mono (by omega))
  clear hb2 hc hf e0 e1 e2 z0 z1 z2 k7 kt
  go_wp2
  refine bodyPost_ret (v := .tuple #[.agg #[.int .u64 0, .int .i64 0, .pointer none], .bool false]) (by simp [results, Yba.results12, go_sem, e0', e1', e2']) rfl ⟨rfl, ?_⟩
  exact ((HB2.out.setCell (p := ⟨w.heap.size, 0, none⟩) (Nat.le_refl _) _).setCell (p := ⟨w.heap.size, 1, none⟩) (Nat.le_refl _) _).setCell (p := ⟨w.heap.size, 2, none⟩) (Nat.le_refl _) _

/-- Three cells of a block: what they hold; that they may be written. -/
structure Tri3 (w : World) (b : Nat) (v0 v1 v2 : Value) : Prop where
  c0 : w.cell? ⟨b, 0, none⟩ = some v0
  c1 : w.cell? ⟨b, 1, none⟩ = some v1
  c2 : w.cell? ⟨b, 2, none⟩ = some v2
  f0 : w.frozen? ⟨b, 0, none⟩ = false
  f1 : w.frozen? ⟨b, 1, none⟩ = false
  f2 : w.frozen? ⟨b, 2, none⟩ = false
theorem Tri3.below {W w : World} {b B : Nat} {v0 v1 v2 : Value} (h : Tri3 W b v0 v1 v2) (hb : b < B) (hB : Below B W w) : Tri3 w b v0 v1 v2 :=
  ⟨(hB.cell (p := ⟨b, 0, none⟩) hb).trans h.c0, (hB.cell (p := ⟨b, 1, none⟩) hb).trans h.c1, (hB.cell (p := ⟨b, 2, none⟩) hb).trans h.c2, (hB.frozen (p := ⟨b, 0, none⟩) hb).trans h.f0, (hB.frozen (p := ⟨b, 1, none⟩) hb).trans h.f1, (hB.frozen (p := ⟨b, 2, none⟩) hb).trans h.f2⟩
theorem tri_new (w : World) (v0 v1 v2 : Value) (w1 : World) (hb : Below (w.alloc (.cells #[v0, v1, v2] 25)).heap.size (w.alloc (.cells #[v0, v1, v2] 25)) w1) : Tri3 w1 w.heap.size v0 v1 v2 :=
  Tri3.below (B := (w.alloc (.cells #[v0, v1, v2] 25)).heap.size) ⟨by simp, by simp, by simp, by simp, by simp, by simp⟩ (by simp) hb

set_option maxHeartbeats 1000000 in
/-- (*Replica).Deadline, out of what the machine and the desk say. -/
theorem replica_low (r m d x : Nat) (q : Int) (ok : Bool) (w : World) (hx : x < 1073741824) (hr : r < w.heap.size) (c15 : w.cell? ⟨r, 15, none⟩ = some (.pointer (some ⟨m, 0, none⟩))) (c16 : w.cell? ⟨r, 16, none⟩ = some (.pointer (some ⟨d, 0, none⟩)))
    (hM : ∀ w1, Below w.heap.size w w1 → Calls Yba.prog 11 #[.pointer (some ⟨m, 0, none⟩)] w1 fun r w' => r = .returned (.agg #[.int .u64 0, .int .i64 0, .pointer none]) ∧ Below w1.heap.size w1 w')
    (hD : ∀ w1, Below w.heap.size w w1 → Calls Yba.prog 12 #[.pointer (some ⟨d, 0, none⟩)] w1 fun r w' => r = .returned (.tuple #[.agg #[.int .u64 x, .int .i64 q, .pointer none], .bool ok]) ∧ Below w1.heap.size w1 w')
    (v : Value) (hv : v = if ok = true ∧ q < 0 then .agg #[.int .u64 x, .int .i64 q, .pointer none] else .agg #[.int .u64 0, .int .i64 0, .pointer none]) :
    Calls Yba.prog 5 #[.pointer (some ⟨r, 0, none⟩)] w fun e w' => e = .returned v ∧ Below w.heap.size w w' := by
  have HM : Hid _ := And.intro hM hD
  clear hM hD
  have hr1 : r < w.heap.size + 1 := by omega
  have HV : Hid (v = if ok = true ∧ q < 0 then .agg #[.int .u64 x, .int .i64 q, .pointer none] else .agg #[.int .u64 0, .int .i64 0, .pointer none]) := hv
  clear hv
  go_enter Yba.func5, Yba.ntmps5
  go_wp2_with fail
  refine (HM.out.1 _ ((Below.refl _ w).alloc (Nat.le_refl _) _)).mono ?_
  rintro e w1 ⟨rfl, hb1⟩
  have hs1 : w.heap.size < w1.heap.size := by have := hb1.size; simp at this; omega
  have T1 := tri_new w (.int .u64 0) (.int .i64 0) (.pointer none) w1 hb1
  have k16 : w1.cell? ⟨r, 16, none⟩ = some (.pointer (some ⟨d, 0, none⟩)) := (hb1.cell (p := ⟨r, 16, none⟩) (by simp; omega)).trans ((World.cell?_alloc_past _ _ _ hr).trans c16)
  have hr2 : r < w1.heap.size := by omega
  have HB1 : Hid (Below w.heap.size w w1) := ((Below.refl _ w).alloc (Nat.le_refl _) _).trans (hb1.mono (by simp))
  clear hb1 c15 c16
  go_wp2_with fail
  refine (HM.out.2 _ (HB1.out.alloc HB1.out.size _)).mono ?_
  rintro e w2 ⟨rfl, hb2⟩
  have hs2 : w1.heap.size < w2.heap.size := by have := hb2.size; simp at this; omega
  have hs3 : w.heap.size < w2.heap.size := by omega
  have T2 := tri_new w1 (.int .u64 0) (.int .i64 0) (.pointer none) w2 hb2
  have T3 := T1.below (W := w1) (B := w1.heap.size) hs1 (((Below.refl _ w1).alloc (Nat.le_refl _) _).trans (hb2.mono (by simp)))
  have HB2 : Hid (Below w.heap.size w w2) := (HB1.out.alloc HB1.out.size _).trans (hb2.mono (by have := HB1.out.size; simp; omega))
  clear hb2 T1 k16 HM
  cases ok with
  | false =>
    have ev : v = .agg #[.int .u64 0, .int .i64 0, .pointer none] := by rw [HV.out]; simp
    subst ev
    obtain ⟨a0, a1, a2, _⟩ := T2
    obtain ⟨b0, b1, b2, f0, f1, f2⟩ := T3
    go_wp2
    refine bodyPost_ret (v := .agg #[.int .u64 0, .int .i64 0, .pointer none]) (by simp [results, Yba.results5, go_sem, b0, b1, b2, hs3]) rfl ⟨rfl, ?_⟩
    exact (((HB2.out.setCell (p := ⟨w.heap.size, 0, none⟩) (Nat.le_refl _) _).setCell (p := ⟨w.heap.size, 1, none⟩) (Nat.le_refl _) _).setCell (p := ⟨w.heap.size, 2, none⟩) (Nat.le_refl _) _).alloc (by simp [World.setCell]; omega) _
  | true =>
    have T2' := T2
    obtain ⟨a0, a1, a2, _⟩ := T2'
    have T3' := T3
    obtain ⟨b0, b1, b2, f0, f1, f2⟩ := T3'
    have HT : Hid (Tri3 w2 w1.heap.size (.int .u64 0) (.int .i64 0) (.pointer none) ∧ Tri3 w2 w.heap.size (.int .u64 0) (.int .i64 0) (.pointer none)) := ⟨T2, T3⟩
    clear T2 T3
    go_wp2_with fail
    refine (before_zero x q _ hx).mono ?_
    rintro e w3 ⟨rfl, hb3⟩
    have T4 := tri_new w2 (.int .u64 x) (.int .i64 q) (.pointer none) w3 hb3
    have hB23 : Below w2.heap.size w2 w3 := ((Below.refl _ w2).alloc (Nat.le_refl _) _).trans (hb3.mono (by simp))
    have T5 := HT.out.1.below hs2 hB23
    have T6 := HT.out.2.below hs3 hB23
    have HB3 : Hid (Below w.heap.size w w3) := HB2.out.trans (hB23.mono (by omega))
    clear hb3 hB23 HT a0 a1 a2 b0 b1 b2 f0 f1 f2
    obtain ⟨a0, a1, a2, _⟩ := T4
    obtain ⟨g0, g1, g2, _⟩ := T5
    obtain ⟨b0, b1, b2, f0, f1, f2⟩ := T6
    by_cases hq : q < 0
    · have ev : v = .agg #[.int .u64 x, .int .i64 q, .pointer none] := by rw [HV.out]; simp [hq]
      subst ev
      have hd1 : decide (q < 0) = true := decide_eq_true hq
      go_wp2
      refine bodyPost_ret (v := .agg #[.int .u64 x, .int .i64 q, .pointer none]) (by simp [results, Yba.results5, go_sem, b0, b1, b2]) rfl ⟨rfl, ?_⟩
      exact ((HB3.out.setCell (p := ⟨w.heap.size, 0, none⟩) (Nat.le_refl _) _).setCell (p := ⟨w.heap.size, 1, none⟩) (Nat.le_refl _) _).setCell (p := ⟨w.heap.size, 2, none⟩) (Nat.le_refl _) _
    · have ev : v = .agg #[.int .u64 0, .int .i64 0, .pointer none] := by rw [HV.out]; simp [hq]
      subst ev
      have hd1 : decide (q < 0) = false := decide_eq_false hq
      go_wp2
      refine bodyPost_ret (v := .agg #[.int .u64 0, .int .i64 0, .pointer none]) (by simp [results, Yba.results5, go_sem, b0, b1, b2]) rfl ⟨rfl, ?_⟩
      exact ((HB3.out.setCell (p := ⟨w.heap.size, 0, none⟩) (Nat.le_refl _) _).setCell (p := ⟨w.heap.size, 1, none⟩) (Nat.le_refl _) _).setCell (p := ⟨w.heap.size, 2, none⟩) (Nat.le_refl _) _
end Go.Proofs.Ybulkbabc
