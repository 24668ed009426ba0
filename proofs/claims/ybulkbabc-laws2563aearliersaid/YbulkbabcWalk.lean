/-
  The walk of LawS2563AEarlier.
-/
import Derived.Test.YbulkbabcLaw
import Derived.Deep.CutRange
namespace Go.Proofs.Ybulkbabc
open Go.ChangeShapes Go.WideShapes Go.ChangeAt Go.RowKit

/-- A composite literal, its value under a name: a law for the walk. -/
theorem wpList_build_to {P : Program} {w : World} {ops : Array Oper} {rest : List Oper} {o : Oper} {a : Act} {Q : Exit → Act → World → Prop} (hgd : o.guard = none) (t : TypeId) (parts : Array (Nat × Operand)) (ho : o.op = .build t parts)
    (Z : Array Value) (vs : Array (Nat × Value)) (hv : (parts.map fun (i, x) => (i, a.eval x)) = vs) (hrun : ∀ w, (Instr.build t vs).run P w = .ok (.agg Z) w)
    (h : wpList P ops Q rest (a.put o.dst (.agg Z)) w) : wpList P ops Q (o :: rest) a w := by
  refine wpList_plain hgd fun K hK => ?_
  unfold Oper.wp execOp
  simp only [ho, hv, hrun, Sem.run_bind, Sem.run_pure, Result.andThen_ok]
  exact hK _ _ h

set_option maxHeartbeats 1000000 in
theorem law_without (n q : Int) (x : Nat) (w : World)
    (hadd : ∀ w, Calls Yba.prog 4 #[.agg #[.int .u64 0, .int .i64 0, .pointer none], .int .i64 n] w fun r w' => r = .returned (.agg #[.int .u64 x, .int .i64 q, .pointer none]) ∧ Below w.heap.size w w') :
    Calls Yba.prog 3 #[.int .i64 n, .bool false] w fun e w' => e = .returned (.bool true) ∧ Below w.heap.size w w' := by
  have HA : Hid (∀ w, Calls Yba.prog 4 #[.agg #[.int .u64 0, .int .i64 0, .pointer none], .int .i64 n] w fun r w' => r = .returned (.agg #[.int .u64 x, .int .i64 q, .pointer none]) ∧ Below w.heap.size w w') := hadd
  clear hadd
  obtain ⟨Z, hZ, z11, z12, z40, z41, z42, z49⟩ := machine_zero
  obtain ⟨D, hD, dd⟩ := desk_made
  obtain ⟨R, hR, rr⟩ := replica_made
  go_enter Yba.func3, Yba.ntmps3
  go_wp2_with fail
  refine (HA.out _).mono ?_
  rintro e w1 ⟨rfl, hB1⟩
  go_upto_region 5 with fail
  go_wp2_with (first | (refine wpList_build_to rfl 77 #[] rfl Z #[] (by simp) hZ ?_) | (refine wpList_build_to rfl 88 #[(2, .tmp 23), (3, .tmp 24)] rfl (R ⟨w1.heap.size + 1 + 1, 0, none⟩ ⟨w1.heap.size + 1, 0, none⟩) #[(2, .pointer (some ⟨w1.heap.size + 1 + 1, 0, none⟩)), (3, .pointer (some ⟨w1.heap.size + 1, 0, none⟩))] (by simp [go_sem]) (hR _ _) ?_))
  refine (replica_low (w1.heap.size + 1 + 1 + 1) (w1.heap.size + 1 + 1) (w1.heap.size + 1) 0 0 false _ (by omega) (by simp) (by go_simp) (by go_simp) (fun w' hb => ?hM) (fun w' hb => ?hD) (.agg #[.int .u64 0, .int .i64 0, .pointer none]) (by simp)).mono ?rest
  case hM =>
    obtain ⟨hc, _⟩ := bcell hb
    exact machine_any _ w' (by have := hb.size; simp at this; omega) ((hc _ _ (by simp)).trans (by go_simp)) ((hc _ _ (by simp)).trans (by go_simp)) ((hc _ _ (by simp)).trans (by go_simp)) ((hc _ _ (by simp)).trans (by go_simp)) ((hc _ _ (by simp)).trans (by go_simp)) ((hc _ _ (by simp)).trans (by go_simp))
  case hD =>
    obtain ⟨hc, _⟩ := bcell hb
    exact desk_none _ w' (by have := hb.size; simp at this; omega) ((hc _ _ (by simp <;> omega)).trans (by go_simp))
  case rest =>
    rintro e w5 ⟨rfl, hB5⟩
    have HB5 : Hid (Below w.heap.size w w5) := ((((hB1.alloc hB1.size _).alloc (by have := hB1.size; simp; omega) _).alloc (by have := hB1.size; simp; omega) _).alloc (by have := hB1.size; simp; omega) _).trans (hB5.mono (by have := hB1.size; simp; omega))
    clear hB5 hB1 HA
    go_wp2_with (go_at_call 6; refine (equal_self 0 0 _ (by omega)).mono ?_; rintro e w6 ⟨rfl, hB6⟩)
    go_ret
    exact ⟨rfl, ((HB5.out.alloc HB5.out.size _).alloc (by have := HB5.out.size; simp; omega) _).trans (hB6.mono (by have := HB5.out.size; simp; omega))⟩
set_option maxHeartbeats 1000000 in
theorem law_neg (n q : Int) (x : Nat) (w : World) (hx : x < 1073741824) (hq : q < 0) (hn : n < 0)
    (hadd : ∀ w, Calls Yba.prog 4 #[.agg #[.int .u64 0, .int .i64 0, .pointer none], .int .i64 n] w fun r w' => r = .returned (.agg #[.int .u64 x, .int .i64 q, .pointer none]) ∧ Below w.heap.size w w') :
    Calls Yba.prog 3 #[.int .i64 n, .bool true] w fun e w' => e = .returned (.bool true) ∧ Below w.heap.size w w' := by
  have HA : Hid (∀ w, Calls Yba.prog 4 #[.agg #[.int .u64 0, .int .i64 0, .pointer none], .int .i64 n] w fun r w' => r = .returned (.agg #[.int .u64 x, .int .i64 q, .pointer none]) ∧ Below w.heap.size w w') := hadd
  clear hadd
  obtain ⟨Z, hZ, z11, z12, z40, z41, z42, z49⟩ := machine_zero
  obtain ⟨D, hD, dd⟩ := desk_made
  obtain ⟨R, hR, rr⟩ := replica_made
  obtain ⟨T, hT, t1⟩ := table_zero
  have HZ : Hid ((((x : Int) == 0) && (q == 0)) = false) := by show _ = _; simp; omega
  go_enter Yba.func3, Yba.ntmps3
  go_wp2_with fail
  refine (HA.out _).mono ?_
  rintro e w1 ⟨rfl, hB1⟩
  go_wp2_with (first | (refine wpList_build_to rfl 50 #[] rfl T #[] (by simp) hT ?_) | (refine wpList_build_to rfl 77 #[] rfl Z #[] (by simp) hZ ?_) | (refine wpList_build_to rfl 88 #[(2, .tmp 23), (3, .tmp 24)] rfl (R ⟨w1.heap.size + 1 + 1 + 1, 0, none⟩ ⟨w1.heap.size + 1, 0, none⟩) #[(2, .pointer (some ⟨w1.heap.size + 1 + 1 + 1, 0, none⟩)), (3, .pointer (some ⟨w1.heap.size + 1, 0, none⟩))] (by simp [go_sem]) (hR _ _) ?_))
  refine (replica_low (w1.heap.size + 1 + 1 + 1 + 1) (w1.heap.size + 1 + 1 + 1) (w1.heap.size + 1) x q true _ (by omega) (by simp) (by go_simp) (by go_simp) (fun w' hb => ?hM) (fun w' hb => ?hD) (.agg #[.int .u64 x, .int .i64 q, .pointer none]) (by simp [hq])).mono ?rest
  case hM =>
    obtain ⟨hc, _⟩ := bcell hb
    exact machine_any _ w' (by have := hb.size; simp at this; omega) ((hc _ _ (by simp)).trans (by go_simp)) ((hc _ _ (by simp)).trans (by go_simp)) ((hc _ _ (by simp)).trans (by go_simp)) ((hc _ _ (by simp)).trans (by go_simp)) ((hc _ _ (by simp)).trans (by go_simp)) ((hc _ _ (by simp)).trans (by go_simp))
  case hD =>
    obtain ⟨hc, _⟩ := bcell hb
    exact desk_hold _ (w1.heap.size + 1 + 1) x q w' (by have := hb.size; simp at this; omega) HZ.out ((hc _ _ (by simp <;> omega)).trans (by go_simp)) ((hc _ _ (by simp <;> omega)).trans (by go_simp)) ((hc _ _ (by simp <;> omega)).trans (by go_simp)) ((hc _ _ (by simp <;> omega)).trans (by go_simp))
  case rest =>
    rintro e w5 ⟨rfl, hB5⟩
    obtain ⟨hc, _⟩ := bcell hB5
    have e0 : w5.cell? ⟨w1.heap.size, 0, none⟩ = some (.int .u64 x) := (hc _ _ (by simp <;> omega)).trans (by go_simp)
    have e1 : w5.cell? ⟨w1.heap.size, 1, none⟩ = some (.int .i64 q) := (hc _ _ (by simp <;> omega)).trans (by go_simp)
    have e2 : w5.cell? ⟨w1.heap.size, 2, none⟩ = some (.pointer none) := (hc _ _ (by simp <;> omega)).trans (by go_simp)
    have hs5 : w1.heap.size < w5.heap.size := by have := hB5.size; simp at this; omega
    have hs6 : w1.heap.size < w5.heap.size + 1 := by omega
    clear hc
    have HB5 : Hid (Below w.heap.size w w5) := (((((hB1.alloc hB1.size _).alloc (by have := hB1.size; simp; omega) _).alloc (by have := hB1.size; simp; omega) _).alloc (by have := hB1.size; simp; omega) _).alloc (by have := hB1.size; simp; omega) _).trans (hB5.mono (by have := hB1.size; simp; omega))
    clear hB5 hB1 HA
    go_wp2_with (go_at_call 6; refine (equal_self x q _ hx).mono ?_; rintro e w6 ⟨rfl, hB6⟩)
    go_ret
    exact ⟨rfl, ((HB5.out.alloc HB5.out.size _).alloc (by have := HB5.out.size; simp; omega) _).trans (hB6.mono (by have := HB5.out.size; simp; omega))⟩
set_option maxHeartbeats 1000000 in
theorem law_pos (n q : Int) (x : Nat) (w : World) (hx : x < 1073741824) (hq : ¬ q < 0) (hn : ¬ n < 0) (hne : ¬ (x = 0 ∧ q = 0))
    (hadd : ∀ w, Calls Yba.prog 4 #[.agg #[.int .u64 0, .int .i64 0, .pointer none], .int .i64 n] w fun r w' => r = .returned (.agg #[.int .u64 x, .int .i64 q, .pointer none]) ∧ Below w.heap.size w w') :
    Calls Yba.prog 3 #[.int .i64 n, .bool true] w fun e w' => e = .returned (.bool true) ∧ Below w.heap.size w w' := by
  have HA : Hid (∀ w, Calls Yba.prog 4 #[.agg #[.int .u64 0, .int .i64 0, .pointer none], .int .i64 n] w fun r w' => r = .returned (.agg #[.int .u64 x, .int .i64 q, .pointer none]) ∧ Below w.heap.size w w') := hadd
  clear hadd
  obtain ⟨Z, hZ, z11, z12, z40, z41, z42, z49⟩ := machine_zero
  obtain ⟨D, hD, dd⟩ := desk_made
  obtain ⟨R, hR, rr⟩ := replica_made
  obtain ⟨T, hT, t1⟩ := table_zero
  have HZ : Hid ((((x : Int) == 0) && (q == 0)) = false) := by show _ = _; simp; omega
  clear hne
  go_enter Yba.func3, Yba.ntmps3
  go_wp2_with fail
  refine (HA.out _).mono ?_
  rintro e w1 ⟨rfl, hB1⟩
  go_wp2_with (first | (refine wpList_build_to rfl 50 #[] rfl T #[] (by simp) hT ?_) | (refine wpList_build_to rfl 77 #[] rfl Z #[] (by simp) hZ ?_) | (refine wpList_build_to rfl 88 #[(2, .tmp 23), (3, .tmp 24)] rfl (R ⟨w1.heap.size + 1 + 1 + 1, 0, none⟩ ⟨w1.heap.size + 1, 0, none⟩) #[(2, .pointer (some ⟨w1.heap.size + 1 + 1 + 1, 0, none⟩)), (3, .pointer (some ⟨w1.heap.size + 1, 0, none⟩))] (by simp [go_sem]) (hR _ _) ?_))
  refine (replica_low (w1.heap.size + 1 + 1 + 1 + 1) (w1.heap.size + 1 + 1 + 1) (w1.heap.size + 1) x q true _ (by omega) (by simp) (by go_simp) (by go_simp) (fun w' hb => ?hM) (fun w' hb => ?hD) (.agg #[.int .u64 0, .int .i64 0, .pointer none]) (by rw [if_neg (fun h => by omega)])).mono ?rest
  case hM =>
    obtain ⟨hc, _⟩ := bcell hb
    exact machine_any _ w' (by have := hb.size; simp at this; omega) ((hc _ _ (by simp)).trans (by go_simp)) ((hc _ _ (by simp)).trans (by go_simp)) ((hc _ _ (by simp)).trans (by go_simp)) ((hc _ _ (by simp)).trans (by go_simp)) ((hc _ _ (by simp)).trans (by go_simp)) ((hc _ _ (by simp)).trans (by go_simp))
  case hD =>
    obtain ⟨hc, _⟩ := bcell hb
    exact desk_hold _ (w1.heap.size + 1 + 1) x q w' (by have := hb.size; simp at this; omega) HZ.out ((hc _ _ (by simp <;> omega)).trans (by go_simp)) ((hc _ _ (by simp <;> omega)).trans (by go_simp)) ((hc _ _ (by simp <;> omega)).trans (by go_simp)) ((hc _ _ (by simp <;> omega)).trans (by go_simp))
  case rest =>
    rintro e w5 ⟨rfl, hB5⟩
    have HB5 : Hid (Below w.heap.size w w5) := (((((hB1.alloc hB1.size _).alloc (by have := hB1.size; simp; omega) _).alloc (by have := hB1.size; simp; omega) _).alloc (by have := hB1.size; simp; omega) _).alloc (by have := hB1.size; simp; omega) _).trans (hB5.mono (by have := hB1.size; simp; omega))
    clear hB5 hB1 HA
    go_wp2_with (go_at_call 6; refine (equal_self 0 0 _ (by omega)).mono ?_; rintro e w6 ⟨rfl, hB6⟩)
    go_ret
    exact ⟨rfl, ((HB5.out.alloc HB5.out.size _).alloc (by have := HB5.out.size; simp; omega) _).trans (hB6.mono (by have := HB5.out.size; simp; omega))⟩
set_option maxHeartbeats 1000000 in
theorem law_zero (n : Int) (w : World) (hn : ¬ n < 0)
    (hadd : ∀ w, Calls Yba.prog 4 #[.agg #[.int .u64 0, .int .i64 0, .pointer none], .int .i64 n] w fun r w' => r = .returned (.agg #[.int .u64 0, .int .i64 0, .pointer none]) ∧ Below w.heap.size w w') :
    Calls Yba.prog 3 #[.int .i64 n, .bool true] w fun e w' => e = .returned (.bool true) ∧ Below w.heap.size w w' := by
  have HA : Hid (∀ w, Calls Yba.prog 4 #[.agg #[.int .u64 0, .int .i64 0, .pointer none], .int .i64 n] w fun r w' => r = .returned (.agg #[.int .u64 0, .int .i64 0, .pointer none]) ∧ Below w.heap.size w w') := hadd
  clear hadd
  obtain ⟨Z, hZ, z11, z12, z40, z41, z42, z49⟩ := machine_zero
  obtain ⟨D, hD, dd⟩ := desk_made
  obtain ⟨R, hR, rr⟩ := replica_made
  obtain ⟨T, hT, t1⟩ := table_zero
  go_enter Yba.func3, Yba.ntmps3
  go_wp2_with fail
  refine (HA.out _).mono ?_
  rintro e w1 ⟨rfl, hB1⟩
  go_wp2_with (first | (refine wpList_build_to rfl 50 #[] rfl T #[] (by simp) hT ?_) | (refine wpList_build_to rfl 77 #[] rfl Z #[] (by simp) hZ ?_) | (refine wpList_build_to rfl 88 #[(2, .tmp 23), (3, .tmp 24)] rfl (R ⟨w1.heap.size + 1 + 1 + 1, 0, none⟩ ⟨w1.heap.size + 1, 0, none⟩) #[(2, .pointer (some ⟨w1.heap.size + 1 + 1 + 1, 0, none⟩)), (3, .pointer (some ⟨w1.heap.size + 1, 0, none⟩))] (by simp [go_sem]) (hR _ _) ?_))
  refine (replica_low (w1.heap.size + 1 + 1 + 1 + 1) (w1.heap.size + 1 + 1 + 1) (w1.heap.size + 1) 0 0 false _ (by omega) (by simp) (by go_simp) (by go_simp) (fun w' hb => ?hM) (fun w' hb => ?hD) (.agg #[.int .u64 0, .int .i64 0, .pointer none]) (by simp)).mono ?rest
  case hM =>
    obtain ⟨hc, _⟩ := bcell hb
    exact machine_any _ w' (by have := hb.size; simp at this; omega) ((hc _ _ (by simp)).trans (by go_simp)) ((hc _ _ (by simp)).trans (by go_simp)) ((hc _ _ (by simp)).trans (by go_simp)) ((hc _ _ (by simp)).trans (by go_simp)) ((hc _ _ (by simp)).trans (by go_simp)) ((hc _ _ (by simp)).trans (by go_simp))
  case hD =>
    obtain ⟨hc, _⟩ := bcell hb
    exact desk_zero _ (w1.heap.size + 1 + 1) w' (by have := hb.size; simp at this; omega) (by have := hb.size; simp at this; omega) ((hc _ _ (by simp <;> omega)).trans (by go_simp)) ((hc _ _ (by simp <;> omega)).trans (by go_simp)) ((hc _ _ (by simp <;> omega)).trans (by go_simp)) ((hc _ _ (by simp <;> omega)).trans (by go_simp)) ((hc _ _ (by simp <;> omega)).trans (by go_simp))
  case rest =>
    rintro e w5 ⟨rfl, hB5⟩
    have HB5 : Hid (Below w.heap.size w w5) := (((((hB1.alloc hB1.size _).alloc (by have := hB1.size; simp; omega) _).alloc (by have := hB1.size; simp; omega) _).alloc (by have := hB1.size; simp; omega) _).alloc (by have := hB1.size; simp; omega) _).trans (hB5.mono (by have := hB1.size; simp; omega))
    clear hB5 hB1 HA
    go_wp2_with (go_at_call 6; refine (equal_self 0 0 _ (by omega)).mono ?_; rintro e w6 ⟨rfl, hB6⟩)
    go_ret
    exact ⟨rfl, ((HB5.out.alloc HB5.out.size _).alloc (by have := HB5.out.size; simp; omega) _).trans (hB6.mono (by have := HB5.out.size; simp; omega))⟩
end Go.Proofs.Ybulkbabc
