/-
  The walks of (*strides).kind and (*strides).extend.
-/
import Derived.Test.YbulkazzmStrides
import Derived.Test.YbulkazzmExtends
import Derived.Deep.RegionHeld3
import Derived.Deep.RegionWith
import Derived.Deep.CutRange
import Derived.BigRegion
import Derived.RegionTactic
namespace Go.Proofs.Ybulkazzm
open Go.ChangeShapes Go.WideShapes Go.ChangeAt Go.RowKit Go.Deep

set_option maxHeartbeats 400000 in
theorem kind_low (x nn n : Nat) (home k : Int) (w : World) (h1 : 1 ≤ n) (h2 : n ≤ nn) (hn : nn ≤ 16) (c0 : w.cell? ⟨x, 0, none⟩ = some (.int .i64 nn)) (c1 : w.cell? ⟨x, 1, none⟩ = some (.int .i64 home)) (b : Bool) (hb : ((wrap64 (home + k)).tmod nn == (n : Int) - 1) = b) :
    Calls Yba.prog 14 #[.pointer (some ⟨x, 0, none⟩), .int .i64 k, .int .i64 n] w fun e w' => e = .returned (.int .i64 (if b then 2 * ((n : Int) - 1) else 2 * ((n : Int) - 1) + 1)) ∧ ∃ m, w' = w.drewN m := by
  cases b
  all_goals
    go_enter Yba.func14, Yba.ntmps14
    go_wp2
    go_quiet (fail)
    go_wp2
    go_ret
    exact ⟨rfl, _, rfl⟩

theorem kind_any {x t nn n : Nat} {home first k : Int} {fv : Value} {ts : List Tri} {w : World} (hs : Sd w x t nn home first fv ts) (h1 : 1 ≤ n) (h2 : n ≤ nn) (hn : nn ≤ 16) :
    Calls Yba.prog 14 #[.pointer (some ⟨x, 0, none⟩), .int .i64 k, .int .i64 n] w fun e w' => e = .returned (.int .i64 (kd home k nn n)) ∧ ∃ m, w' = w.drewN m := by
  refine (kind_low x nn n home k w h1 h2 hn hs.c0 hs.c1 _ rfl).mono ?_
  rintro e w' ⟨rfl, m, rfl⟩
  refine ⟨?_, m, rfl⟩
  congr 2
  unfold kd
  by_cases h : (wrap64 (home + k)).tmod nn = (n : Int) - 1
  · simp only [h, beq_self_eq_true, if_true]
    omega
  · rw [if_neg (by simpa using h), if_neg h]
    omega

theorem i64_fit {n : Int} (h : -2147483648 ≤ n ∧ n ≤ 2147483647) : IntKind.i64.wrap n = n := by
  simp [IntKind.wrap, IntKind.signed, IntKind.bits]
  omega

set_option maxHeartbeats 1000000 in
theorem extend_one (x t j cap : Nat) (nd gf f st : Int) (w : World) (hj : j < cap) (_hc : cap ≤ 32) (c4 : w.cell? ⟨x, 4, none⟩ = some (.slice (some ⟨t, 0, none⟩) cap cap)) (hx : x < w.heap.size) (ht : t < w.heap.size)
    (d0 : w.cell? ⟨t, j * 3, none⟩ = some (.int .i32 f)) (d1 : w.cell? ⟨t, j * 3 + 1, none⟩ = some (.int .i32 st)) (d2 : w.cell? ⟨t, j * 3 + 2, none⟩ = some (.int .i32 1)) (e1 : w.frozen? ⟨t, j * 3 + 1, none⟩ = false) (e2 : w.frozen? ⟨t, j * 3 + 2, none⟩ = false)
    (bf : -2147483648 ≤ f ∧ f ≤ 2147483647) (bs : -2147483648 ≤ st ∧ st ≤ 2147483647) :
    Calls Yba.prog 13 #[.pointer (some ⟨x, 0, none⟩), .int .i64 j, .agg #[.int .i64 nd, .int .i64 gf, .int .i64 0, .int .i64 1]] w fun e w' => e = .returned (.bool true) ∧
      ∃ w1, Below w.heap.size w w1 ∧ ∃ m, w' = ((w1.setCell ⟨t, j * 3 + 1, none⟩ (.int .i32 (wrap32 (wrap64 (gf - f))))).setCell ⟨t, j * 3 + 2, none⟩ (.int .i32 2)).drewN m := by
  go_enter Yba.func13, Yba.ntmps13
  go_wp2
  go_cut [8, 9] from 10 to 40 (fun s o wx => s = .int .i64 (wrap64 (gf - f)) ∧ o = .bool true ∧ Below (w.heap.size + 1) (w.alloc (.cells #[.int .i64 nd, .int .i64 gf, .int .i64 0, .int .i64 1] 27)) wx)
  case first =>
    have hz := World.new_ne w ⟨t, j * 3, none⟩ d0
    have q0 := i64_fit bf
    have q1 := i64_fit bs
    go_region_held3 (fun w' => w'.cell? ⟨w.heap.size, 0, none⟩ = some (.int .i64 nd) ∧ w'.cell? ⟨w.heap.size, 1, none⟩ = some (.int .i64 gf) ∧ w'.cell? ⟨w.heap.size, 2, none⟩ = some (.int .i64 0) ∧ w'.cell? ⟨w.heap.size, 3, none⟩ = some (.int .i64 1) ∧
        w'.cell? ⟨t, j * 3, none⟩ = some (.int .i32 f) ∧ w'.cell? ⟨t, j * 3 + 1, none⟩ = some (.int .i32 st) ∧ w'.cell? ⟨t, j * 3 + 2, none⟩ = some (.int .i32 1))
      (first | go_keep | (go_split_ands; refine ⟨?_, ?_, ?_, ?_, ?_, ?_, ?_⟩ <;> (rw [hb2.cell (by simp <;> omega)]; assumption)))
      (first | (go_at_call 16; refine (extends_one _ _ _ _ _).mono ?_; rintro e w2 ⟨rfl, hb2⟩))
    go_wp2
    go_meet
    case rel =>
      refine ⟨rfl, rfl, ?_⟩
      exact (Below.refl _ _).drew.trans (hb2.mono (B' := w.heap.size + 1) (by simp))
  case rest =>
    obtain ⟨rfl, rfl, hb⟩ := hcut
    have g0 : wc.cell? ⟨w.heap.size, 3, none⟩ = some (.int .i64 1) := (hb.cell (p := ⟨w.heap.size, 3, none⟩) (by simp)).trans (by simp)
    have k2 : wc.cell? ⟨t, j * 3 + 2, none⟩ = some (.int .i32 1) := (hb.cell (p := ⟨t, j * 3 + 2, none⟩) (show t < w.heap.size + 1 by omega)).trans ((World.cell?_alloc_past _ _ _ ht).trans d2)
    have k1 : wc.cell? ⟨t, j * 3 + 1, none⟩ = some (.int .i32 st) := (hb.cell (p := ⟨t, j * 3 + 1, none⟩) (show t < w.heap.size + 1 by omega)).trans ((World.cell?_alloc_past _ _ _ ht).trans d1)
    have m1 : wc.frozen? ⟨t, j * 3 + 1, none⟩ = false := (hb.frozen (p := ⟨t, j * 3 + 1, none⟩) (show t < w.heap.size + 1 by omega)).trans ((World.frozen?_alloc_past _ _ _ ht).trans e1)
    have m2 : wc.frozen? ⟨t, j * 3 + 2, none⟩ = false := (hb.frozen (p := ⟨t, j * 3 + 2, none⟩) (show t < w.heap.size + 1 by omega)).trans ((World.frozen?_alloc_past _ _ _ ht).trans e2)
    have HB : Hid (Below w.heap.size w wc) := ((Below.refl _ w).alloc (Nat.le_refl _) _).trans (hb.mono (by omega))
    clear hb d0 d1 d2 e1 e2 c4 bf bs
    go_wp2
    go_region
    all_goals go_wp2
    all_goals go_ret
    all_goals exact ⟨rfl, wc, HB.out, _, rfl⟩
set_option maxHeartbeats 1000000 in
theorem extend_yes (x t j cap : Nat) (nd gf f st c : Int) (w : World) (hj : j < cap) (_hc : cap ≤ 32) (c4 : w.cell? ⟨x, 4, none⟩ = some (.slice (some ⟨t, 0, none⟩) cap cap)) (hx : x < w.heap.size) (ht : t < w.heap.size)
    (d0 : w.cell? ⟨t, j * 3, none⟩ = some (.int .i32 f)) (d1 : w.cell? ⟨t, j * 3 + 1, none⟩ = some (.int .i32 st)) (d2 : w.cell? ⟨t, j * 3 + 2, none⟩ = some (.int .i32 c)) (e1 : w.frozen? ⟨t, j * 3 + 1, none⟩ = false) (e2 : w.frozen? ⟨t, j * 3 + 2, none⟩ = false)
    (bf : -2147483648 ≤ f ∧ f ≤ 2147483647) (bs : -2147483648 ≤ st ∧ st ≤ 2147483647) (bc : 1 < c ∧ c ≤ 2147483647) (hg : (gf != wrap64 (f + wrap64 (c * st))) = false) :
    Calls Yba.prog 13 #[.pointer (some ⟨x, 0, none⟩), .int .i64 j, .agg #[.int .i64 nd, .int .i64 gf, .int .i64 0, .int .i64 1]] w fun e w' => e = .returned (.bool true) ∧
      ∃ w1, Below w.heap.size w w1 ∧ ∃ m, w' = ((w1.setCell ⟨t, j * 3 + 1, none⟩ (.int .i32 st)).setCell ⟨t, j * 3 + 2, none⟩ (.int .i32 (wrap32 (c + 1)))).drewN m := by
  obtain ⟨bc1, bc2⟩ := bc
  have BC : Hid (c ≤ 2147483647) := bc2
  clear bc2
  go_enter Yba.func13, Yba.ntmps13
  go_wp2
  go_cut [8, 9] from 10 to 40 (fun s o wx => s = .int .i64 st ∧ o = .bool true ∧ Below (w.heap.size + 1) (w.alloc (.cells #[.int .i64 nd, .int .i64 gf, .int .i64 0, .int .i64 1] 27)) wx)
  case first =>
    have hz := World.new_ne w ⟨t, j * 3, none⟩ d0
    have q0 := i64_fit bf
    have q1 := i64_fit bs
    have q2 := i64_fit (n := c) ⟨by omega, BC.out⟩
    have t1 : (c == 1) = false := by simp; omega
    go_region_held3 (fun w' => w'.cell? ⟨w.heap.size, 0, none⟩ = some (.int .i64 nd) ∧ w'.cell? ⟨w.heap.size, 1, none⟩ = some (.int .i64 gf) ∧ w'.cell? ⟨w.heap.size, 2, none⟩ = some (.int .i64 0) ∧ w'.cell? ⟨w.heap.size, 3, none⟩ = some (.int .i64 1) ∧
        w'.cell? ⟨t, j * 3, none⟩ = some (.int .i32 f) ∧ w'.cell? ⟨t, j * 3 + 1, none⟩ = some (.int .i32 st) ∧ w'.cell? ⟨t, j * 3 + 2, none⟩ = some (.int .i32 c))
      (first | go_keep | (go_split_ands; refine ⟨?_, ?_, ?_, ?_, ?_, ?_, ?_⟩ <;> (rw [hb2.cell (by simp <;> omega)]; assumption)))
      (first | (go_at_call 16; refine (extends_yes _ _ _ _ _ _ t1 hg).mono ?_; rintro e w2 ⟨rfl, hb2⟩))
    go_wp2
    go_meet
    case rel =>
      refine ⟨rfl, rfl, ?_⟩
      exact (Below.refl _ _).drew.trans (hb2.mono (B' := w.heap.size + 1) (by simp))
  case rest =>
    obtain ⟨rfl, rfl, hb⟩ := hcut
    have g0 : wc.cell? ⟨w.heap.size, 3, none⟩ = some (.int .i64 1) := (hb.cell (p := ⟨w.heap.size, 3, none⟩) (by simp)).trans (by simp)
    have k2 : wc.cell? ⟨t, j * 3 + 2, none⟩ = some (.int .i32 c) := (hb.cell (p := ⟨t, j * 3 + 2, none⟩) (show t < w.heap.size + 1 by omega)).trans ((World.cell?_alloc_past _ _ _ ht).trans d2)
    have k1 : wc.cell? ⟨t, j * 3 + 1, none⟩ = some (.int .i32 st) := (hb.cell (p := ⟨t, j * 3 + 1, none⟩) (show t < w.heap.size + 1 by omega)).trans ((World.cell?_alloc_past _ _ _ ht).trans d1)
    have m1 : wc.frozen? ⟨t, j * 3 + 1, none⟩ = false := (hb.frozen (p := ⟨t, j * 3 + 1, none⟩) (show t < w.heap.size + 1 by omega)).trans ((World.frozen?_alloc_past _ _ _ ht).trans e1)
    have m2 : wc.frozen? ⟨t, j * 3 + 2, none⟩ = false := (hb.frozen (p := ⟨t, j * 3 + 2, none⟩) (show t < w.heap.size + 1 by omega)).trans ((World.frozen?_alloc_past _ _ _ ht).trans e2)
    have HB : Hid (Below w.heap.size w wc) := ((Below.refl _ w).alloc (Nat.le_refl _) _).trans (hb.mono (by omega))
    have q3 : IntKind.i32.wrap st = st := by rw [IntWalk.i32_left]; exact IntWalk.wrap32_in st bs
    clear hb d0 d1 d2 e1 e2 c4 bf bs hg
    go_wp2
    go_region
    all_goals go_wp2
    all_goals go_ret
    all_goals exact ⟨rfl, wc, HB.out, _, rfl⟩
set_option maxHeartbeats 1000000 in
theorem extend_no (x t j cap : Nat) (nd gf f st c : Int) (w : World) (hj : j < cap) (_hc : cap ≤ 32) (c4 : w.cell? ⟨x, 4, none⟩ = some (.slice (some ⟨t, 0, none⟩) cap cap)) (hx : x < w.heap.size) (ht : t < w.heap.size)
    (d0 : w.cell? ⟨t, j * 3, none⟩ = some (.int .i32 f)) (d1 : w.cell? ⟨t, j * 3 + 1, none⟩ = some (.int .i32 st)) (d2 : w.cell? ⟨t, j * 3 + 2, none⟩ = some (.int .i32 c)) (e0 : w.frozen? ⟨t, j * 3, none⟩ = false) (e1 : w.frozen? ⟨t, j * 3 + 1, none⟩ = false) (e2 : w.frozen? ⟨t, j * 3 + 2, none⟩ = false)
    (bf : -2147483648 ≤ f ∧ f ≤ 2147483647) (bs : -2147483648 ≤ st ∧ st ≤ 2147483647) (bc : 1 < c ∧ c ≤ 2147483647) (hg : (gf != wrap64 (f + wrap64 (c * st))) = true) :
    Calls Yba.prog 13 #[.pointer (some ⟨x, 0, none⟩), .int .i64 j, .agg #[.int .i64 nd, .int .i64 gf, .int .i64 0, .int .i64 1]] w fun e w' => e = .returned (.bool false) ∧
      ∃ w1, Below w.heap.size w w1 ∧ ∃ m, w' = (((w1.setCell ⟨t, j * 3, none⟩ (.int .i32 (wrap32 gf))).setCell ⟨t, j * 3 + 1, none⟩ (.int .i32 0)).setCell ⟨t, j * 3 + 2, none⟩ (.int .i32 1)).drewN m := by
  obtain ⟨bc1, bc2⟩ := bc
  have BC : Hid (c ≤ 2147483647) := bc2
  clear bc2
  go_enter Yba.func13, Yba.ntmps13
  go_wp2
  go_cut [8, 9] from 10 to 40 (fun s o wx => s = .int .i64 st ∧ o = .bool false ∧ Below (w.heap.size + 1) (w.alloc (.cells #[.int .i64 nd, .int .i64 gf, .int .i64 0, .int .i64 1] 27)) wx)
  case first =>
    have hz := World.new_ne w ⟨t, j * 3, none⟩ d0
    have q0 := i64_fit bf
    have q1 := i64_fit bs
    have q2 := i64_fit (n := c) ⟨by omega, BC.out⟩
    have t1 : (c == 1) = false := by simp; omega
    go_region_held3 (fun w' => w'.cell? ⟨w.heap.size, 0, none⟩ = some (.int .i64 nd) ∧ w'.cell? ⟨w.heap.size, 1, none⟩ = some (.int .i64 gf) ∧ w'.cell? ⟨w.heap.size, 2, none⟩ = some (.int .i64 0) ∧ w'.cell? ⟨w.heap.size, 3, none⟩ = some (.int .i64 1) ∧
        w'.cell? ⟨t, j * 3, none⟩ = some (.int .i32 f) ∧ w'.cell? ⟨t, j * 3 + 1, none⟩ = some (.int .i32 st) ∧ w'.cell? ⟨t, j * 3 + 2, none⟩ = some (.int .i32 c))
      (first | go_keep | (go_split_ands; refine ⟨?_, ?_, ?_, ?_, ?_, ?_, ?_⟩ <;> (rw [hb2.cell (by simp <;> omega)]; assumption)))
      (first | (go_at_call 16; refine (extends_no _ _ _ _ _ _ t1 hg).mono ?_; rintro e w2 ⟨rfl, hb2⟩))
    go_wp2
    go_meet
    case rel =>
      refine ⟨rfl, rfl, ?_⟩
      exact (Below.refl _ _).drew.trans (hb2.mono (B' := w.heap.size + 1) (by simp))
  case rest =>
    obtain ⟨rfl, rfl, hb⟩ := hcut
    have g0 : wc.cell? ⟨w.heap.size, 3, none⟩ = some (.int .i64 1) := (hb.cell (p := ⟨w.heap.size, 3, none⟩) (by simp)).trans (by simp)
    have g1 : wc.cell? ⟨w.heap.size, 1, none⟩ = some (.int .i64 gf) := (hb.cell (p := ⟨w.heap.size, 1, none⟩) (by simp)).trans (by simp)
    have g2 : wc.cell? ⟨w.heap.size, 2, none⟩ = some (.int .i64 0) := (hb.cell (p := ⟨w.heap.size, 2, none⟩) (by simp)).trans (by simp)
    have k0 : wc.cell? ⟨t, j * 3, none⟩ = some (.int .i32 f) := (hb.cell (p := ⟨t, j * 3, none⟩) (show t < w.heap.size + 1 by omega)).trans ((World.cell?_alloc_past _ _ _ ht).trans d0)
    have m0 : wc.frozen? ⟨t, j * 3, none⟩ = false := (hb.frozen (p := ⟨t, j * 3, none⟩) (show t < w.heap.size + 1 by omega)).trans ((World.frozen?_alloc_past _ _ _ ht).trans e0)
    have k2 : wc.cell? ⟨t, j * 3 + 2, none⟩ = some (.int .i32 c) := (hb.cell (p := ⟨t, j * 3 + 2, none⟩) (show t < w.heap.size + 1 by omega)).trans ((World.cell?_alloc_past _ _ _ ht).trans d2)
    have k1 : wc.cell? ⟨t, j * 3 + 1, none⟩ = some (.int .i32 st) := (hb.cell (p := ⟨t, j * 3 + 1, none⟩) (show t < w.heap.size + 1 by omega)).trans ((World.cell?_alloc_past _ _ _ ht).trans d1)
    have m1 : wc.frozen? ⟨t, j * 3 + 1, none⟩ = false := (hb.frozen (p := ⟨t, j * 3 + 1, none⟩) (show t < w.heap.size + 1 by omega)).trans ((World.frozen?_alloc_past _ _ _ ht).trans e1)
    have m2 : wc.frozen? ⟨t, j * 3 + 2, none⟩ = false := (hb.frozen (p := ⟨t, j * 3 + 2, none⟩) (show t < w.heap.size + 1 by omega)).trans ((World.frozen?_alloc_past _ _ _ ht).trans e2)
    have HB : Hid (Below w.heap.size w wc) := ((Below.refl _ w).alloc (Nat.le_refl _) _).trans (hb.mono (by omega))
    clear hb d0 d1 d2 e0 e1 e2 c4 bf bs hg
    go_wp2
    go_ret
    exact ⟨rfl, wc, HB.out, 0, rfl⟩
set_option maxHeartbeats 1000000 in
theorem extend_new (x t j cap : Nat) (nd gf f st c : Int) (w : World) (hj : j < cap) (_hc : cap ≤ 32) (c4 : w.cell? ⟨x, 4, none⟩ = some (.slice (some ⟨t, 0, none⟩) cap cap)) (hx : x < w.heap.size) (ht : t < w.heap.size)
    (d0 : w.cell? ⟨t, j * 3, none⟩ = some (.int .i32 f)) (d1 : w.cell? ⟨t, j * 3 + 1, none⟩ = some (.int .i32 st)) (d2 : w.cell? ⟨t, j * 3 + 2, none⟩ = some (.int .i32 c)) (e0 : w.frozen? ⟨t, j * 3, none⟩ = false) (e1 : w.frozen? ⟨t, j * 3 + 1, none⟩ = false) (e2 : w.frozen? ⟨t, j * 3 + 2, none⟩ = false)
    (bc : ¬ 0 < c) :
    Calls Yba.prog 13 #[.pointer (some ⟨x, 0, none⟩), .int .i64 j, .agg #[.int .i64 nd, .int .i64 gf, .int .i64 0, .int .i64 1]] w fun e w' => e = .returned (.bool false) ∧
      ∃ w1, Below w.heap.size w w1 ∧ ∃ m, w' = (((w1.setCell ⟨t, j * 3, none⟩ (.int .i32 (wrap32 gf))).setCell ⟨t, j * 3 + 1, none⟩ (.int .i32 0)).setCell ⟨t, j * 3 + 2, none⟩ (.int .i32 1)).drewN m := by
  go_enter Yba.func13, Yba.ntmps13
  go_wp2
  go_ret
  refine ⟨rfl, _, (Below.refl _ w).alloc (Nat.le_refl _) (.cells #[.int .i64 nd, .int .i64 gf, .int .i64 0, .int .i64 1] 27), 0, ?_⟩
  rw [World.setCell_alloc_past _ _ _ _ ht, World.setCell_alloc_past _ _ _ _ (by simpa using ht), World.setCell_alloc_past _ _ _ _ (by simpa using ht)]
  rfl

end Go.Proofs.Ybulkazzm
