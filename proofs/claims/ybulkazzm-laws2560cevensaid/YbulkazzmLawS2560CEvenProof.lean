/-
  LawS2560CEven, proved (the frame after the given shell).
-/
import Derived.Test.YbulkazzmRows
import Derived.WalkKit
import Derived.ProofKit
import Derived.OpenShut
import Derived.ShutString
import Derived.Below
import Derived.Deep.OwnRows
import Derived.Laws.Rows
import Derived.Test.YbulkazzmEqual
namespace Go.Proofs.Ybulkazzm.lawS2560CEven
open Go.ChangeShapes Go.WideShapes Go.ChangeAt Go.RowKit Go.Deep
set_option linter.unusedVariables false      -- a walk need not use every 'w<i>' (that an integer argument fits its kind)

theorem own : ownKnob Yba.prog.godebug = none := by kernel_rfl

/-! ### THE WALK -/
theorem info3 : (Yba.prog.info? 3).map (fun i => (i.zero, i.size, i.bytes)) = some (some (.int .i64 0), 1, 8) := by kernel_rfl
/-- 'make([]int, n)': a new row of n noughts. -/
theorem made (n : Nat) (hn : n ≤ 2000) (w : World) : (Instr.makeSlice 38 (.int .i64 (n : Int)) (.int .i64 (n : Int))).run Yba.prog w = .ok (.slice (some ⟨w.heap.size, 0, none⟩) n n) (w.alloc (.cells ((List.replicate n (0 : Int)).map (Value.int .i64)).toArray 3)) := by
  have h := run_make_row' (P := Yba.prog) 38 3 (.int .i64 0) 8 Yba.underlying38 info3 rfl .i64 .i64 n (by omega) (by omega) w
  have e : (madeCells #[Value.int .i64 0] n) = ((List.replicate n (0 : Int)).map (Value.int .i64)).toArray := by
    apply Array.toList_inj.1
    rw [toList_madeCells_one]
    simp
  rw [h, e]

/-- The row of the call's own: its block whole. -/
def IRow (w : World) (b : Nat) (zs : List Int) : Prop := w.heap[b]? = some (.cells (zs.map (Value.int .i64)).toArray 3 (0, 0))
theorem IRow.cell {w : World} {b : Nat} {zs : List Int} (h : IRow w b zs) (i : Nat) (hi : i < zs.length) : w.cell? ⟨b, i, none⟩ = some (.int .i64 (zs.getD i 0)) := by
  rw [cell_of_row w b i _ 3 (0, 0) h]
  simp [hi]
theorem IRow.free {w : World} {b : Nat} {zs : List Int} (h : IRow w b zs) (i : Nat) : w.frozen? ⟨b, i, none⟩ = false := frozen_of_row w b i _ 3 h
theorem IRow.set {w : World} {b : Nat} {zs : List Int} (h : IRow w b zs) (i : Nat) (v : Int) : IRow (w.setCell ⟨b, i, none⟩ (.int .i64 v)) b (zs.set i v) := by
  have := heap_setCell_same w b i _ 3 (.int .i64 v) h
  unfold IRow
  rw [this]
  simp [List.map_set]
theorem IRow.ints {w : World} {b : Nat} {zs : List Int} (h : IRow w b zs) : Ints w (some ⟨b, 0, none⟩) zs :=
  .inr ⟨b, 0, rfl, lt_of_block h, fun i hi => by rw [Nat.zero_add]; exact h.cell i hi⟩

theorem allEq_set {zs : List Int} {s v : Int} {i : Nat} (hi : i < zs.length) (hv : v ≠ s) : allEq (zs.set i v) s = false :=
  allEq_false (k := i) (by simpa using hi) (by simp [hi]; exact hv)
theorem allEq_all {zs : List Int} {s : Int} {n : Nat} (hn : zs.length = n) (h : ∀ j, j < n → zs.getD j 0 = s) : allEq zs s = true := allEq_true (by rw [hn]; exact h)
theorem wrap_ne {s d : Int} (hs : -9223372036854775808 ≤ s ∧ s ≤ 9223372036854775807) (hd : -9223372036854775808 ≤ d ∧ d ≤ 9223372036854775807) (h : d ≠ 0) : wrap64 (s + d) ≠ s := by
  unfold wrap64
  omega

set_option maxHeartbeats 1000000 in
theorem walk_low (z0 : Nat) (a1 : Int) (z2 : Nat) (a3 : Int) (a4 : Int) (h0 : z0 ≤ 255) (h2 : z2 ≤ 255) (b1 : -9223372036854775808 ≤ a1 ∧ a1 ≤ 9223372036854775807) (b3 : -9223372036854775808 ≤ a3 ∧ a3 ≤ 9223372036854775807) (w : World) :
    Calls Yba.prog 6 #[.int .u8 z0, .int .i64 a1, .int .u8 z2, .int .i64 a3, .int .i64 a4] w fun e w' => e = .returned (.bool true) ∧ Below w.heap.size w w' := by
  have hmk := made z0 (by omega)
  obtain ⟨M, hM⟩ : ∃ M, ((List.replicate z0 (0 : Int)).map (Value.int .i64)).toArray = M := ⟨_, rfl⟩
  rw [hM] at hmk
  have HM : Hid (IRow (w.alloc (.cells M 3)) w.heap.size (List.replicate z0 0)) := by rw [← hM]; exact heap_alloc_new w _
  clear hM
  have BB : Hid ((-9223372036854775808 ≤ a1 ∧ a1 ≤ 9223372036854775807) ∧ (-9223372036854775808 ≤ a3 ∧ a3 ≤ 9223372036854775807)) := ⟨b1, b3⟩
  clear b1 b3
  go_enter Yba.func6, Yba.ntmps6
  go_wp2
  go_loopw [13] (fun i wr => ∃ k : Nat, k ≤ z0 ∧ i = .int .i64 k ∧ ∃ zs, IRow wr w.heap.size zs ∧ zs.length = z0 ∧ (∀ j, j < k → zs.getD j 0 = a1) ∧ Below w.heap.size w wr) (fun i _ => z0 - (intOf i).toNat)
  case atStart => exact ⟨0, Nat.zero_le _, rfl, _, HM.out, by simp, fun j hj => by omega, (Below.refl _ _).alloc (Nat.le_refl _) _⟩
  case round =>
    obtain ⟨k, hk, rfl, zs, hzs, hzl, hall, hBr⟩ := hrel
    by_cases hlt : k < z0
    · have ck := hzs.cell k (by rw [hzl]; exact hlt)
      have fk := hzs.free k
      have H : Hid (_ ∧ _ ∧ _ ∧ _) := ⟨hzs, hzl, hall, hBr⟩
      clear hzs hzl hall hBr
      go_wp2
      go_roundw
      case rel =>
        refine ⟨k + 1, by omega, by go_num, _, H.out.1.set k a1, by simp [H.out.2.1], fun j hj => ?_, H.out.2.2.2.setCell (p := ⟨w.heap.size, k, none⟩) (Nat.le_refl _) _⟩
        by_cases e : j = k
        · subst e; simp [H.out.2.1, hlt]
        · have := H.out.2.2.1 j (by omega)
          rw [List.getD_eq_getElem?_getD, List.getElem?_set_ne (by omega), ← List.getD_eq_getElem?_getD]
          exact this
      case measure => simp [intOf]; omega
    · obtain rfl : k = z0 := by omega
      by_cases hd : a3 = 0 ∨ k = 0
      · have R : Hid ((if allEq zs a1 = true then a4 else 0) = a4 ∧ zs.length = k ∧ IRow wr w.heap.size zs ∧ Below w.heap.size w wr) := ⟨by rw [if_pos (allEq_all hzl hall)], hzl, hzs, hBr⟩
        have t : (a4 == a4) = true := by simp
        clear hzs hzl hall hBr
        rcases hd with rfl | rfl
        · go_wp2_with (go_at_call 11; refine (repeats_at _ _ _ _ _ _ zs a1 a4 a4 _ R.out.2.1 (by omega) R.out.2.2.1.ints R.out.1).mono ?_; rintro e w1 ⟨rfl, hB1⟩)
          go_ret
          exact ⟨rfl, R.out.2.2.2.trans (hB1.mono R.out.2.2.2.size)⟩
        · go_wp2_with (go_at_call 11; refine (repeats_at _ _ _ _ _ _ zs a1 a4 a4 _ R.out.2.1 (by omega) R.out.2.2.1.ints R.out.1).mono ?_; rintro e w1 ⟨rfl, hB1⟩)
          all_goals
            go_ret
            exact ⟨rfl, R.out.2.2.2.trans (hB1.mono R.out.2.2.2.size)⟩
      · have hd0 : (a3 != 0) = true := by simp; omega
        have hk0 : 0 < k := by omega
        have hm := Nat.mod_lt z2 hk0
        have ck := hzs.cell (z2 % k) (by rw [hzl]; exact hm)
        have fk := hzs.free (z2 % k)
        have hne : wrap64 (a1 + a3) ≠ a1 := wrap_ne BB.out.1 BB.out.2 (by omega)
        have R : Hid ((if allEq (zs.set (z2 % k) (wrap64 (a1 + a3))) a1 = true then a4 else 0) = 0 ∧ (zs.set (z2 % k) (wrap64 (a1 + a3))).length = k ∧ IRow (wr.setCell ⟨w.heap.size, z2 % k, none⟩ (.int .i64 (wrap64 (a1 + a3)))) w.heap.size (zs.set (z2 % k) (wrap64 (a1 + a3))) ∧ Below w.heap.size w (wr.setCell ⟨w.heap.size, z2 % k, none⟩ (.int .i64 (wrap64 (a1 + a3))))) :=
          ⟨by rw [allEq_set (by rw [hzl]; exact hm) hne]; rfl, by simpa using hzl, hzs.set _ _, hBr.setCell (p := ⟨w.heap.size, z2 % k, none⟩) (Nat.le_refl _) _⟩
        clear hzs hzl hall hBr hne hd
        go_wp2_with (go_at_call 11; refine (repeats_at _ _ _ _ _ _ _ a1 a4 0 _ R.out.2.1 (by omega) R.out.2.2.1.ints R.out.1).mono ?_; rintro e w1 ⟨rfl, hB1⟩)
        go_ret
        exact ⟨rfl, R.out.2.2.2.trans (hB1.mono R.out.2.2.2.size)⟩

theorem walk (a0 : Int) (a1 : Int) (a2 : Int) (a3 : Int) (a4 : Int) (w0 : (Lit.int .u8 a0).wf = true) (w1 : (Lit.int .i64 a1).wf = true) (w2 : (Lit.int .u8 a2).wf = true) (w3 : (Lit.int .i64 a3).wf = true) (w4 : (Lit.int .i64 a4).wf = true) (w : World) :
    Calls Yba.prog 6 #[.int .u8 a0, .int .i64 a1, .int .u8 a2, .int .i64 a3, .int .i64 a4] w fun e w' => e = .returned (.bool true) ∧ Below w.heap.size w w' := by
  obtain ⟨x0, y0⟩ := bounds_u8 w0
  obtain ⟨x2, y2⟩ := bounds_u8 w2
  obtain ⟨n0, rfl⟩ := Int.eq_ofNat_of_zero_le x0
  obtain ⟨n2, rfl⟩ := Int.eq_ofNat_of_zero_le x2
  exact walk_low n0 a1 n2 a3 a4 (by omega) (by omega) (bounds_i64 w1) (bounds_i64 w3) w

/-! ### THE ROW's STEP: WRITTEN OUT: LEAVE IT -/
set_option maxRecDepth 100000 in
theorem lifted (os : Os) (started : os.Started) (H : Type) (enc : TypeId × Value → H) :
    ReturnsInHanded {} Yba.checked os 6 .any (Rows.lawS2560CEvenSpec.pre6 enc Yba.prog Yba.f6 Rows.lawS2560CEvenRow.domain false) (Rows.lawS2560CEvenSpec.post enc Yba.prog Yba.f6 false true false false) := by
  refine returnsInHanded_of_change (C := Yba.checked) own started (by kernel_rfl) Yba.func6
    (ChangeSpec.witness6 (enc := enc) (C := Yba.checked) false ⟨#[], #[.int .u8 0, .int .i64 0, .int .u8 0, .int .i64 0, .int .i64 0], []⟩ 8 (by kernel_rfl) (by kernel_rfl) (by kernel_rfl) (by kernel_rfl)) ?_
  intro W base args ds gs before hval0 hW hcnd _
  have hval : ∀ (j : Nat) t v, Yba.f6.params[j]? = some t → args[j]? = some v → Value.okWide Yba.prog W .any base t v := hval0
  have hW' := hW
  obtain ⟨p, q, hA0, hV, rfl, hfz, hnd⟩ := hW
  have hA : DataW.TrodAll enc Yba.prog W 0 (fun _ => true) true Yba.f6.params.toList args.toList ds p := hA0
  rw [Yba.params6] at hA hval
  obtain ⟨v0, vs0, d0, ds0, p0, q0, hargs, rfl, rfl, h0, r0⟩ := trodAll_cons hA
  obtain ⟨v1, vs1, d1, ds1, p1, q1, rfl, rfl, rfl, h1, r1⟩ := trodAll_cons r0
  obtain ⟨v2, vs2, d2, ds2, p2, q2, rfl, rfl, rfl, h2, r2⟩ := trodAll_cons r1
  obtain ⟨v3, vs3, d3, ds3, p3, q3, rfl, rfl, rfl, h3, r3⟩ := trodAll_cons r2
  obtain ⟨v4, vs4, d4, ds4, p4, q4, rfl, rfl, rfl, h4, r4⟩ := trodAll_cons r3
  obtain ⟨rfl, rfl, rfl⟩ := trodAll_nil r4
  obtain rfl : args = #[v0, v1, v2, v3, v4] := by cases args; simp_all
  obtain ⟨rfl, rfl⟩ := trodVars_none hV
  obtain ⟨a0, rfl, rfl, rfl, w0⟩ := open_int Yba.underlying5 (hval 0 5 v0 rfl rfl) h0
  obtain ⟨a1, rfl, rfl, rfl, w1⟩ := open_int Yba.underlying3 (hval 1 3 v1 rfl rfl) h1
  obtain ⟨a2, rfl, rfl, rfl, w2⟩ := open_int Yba.underlying5 (hval 2 5 v2 rfl rfl) h2
  obtain ⟨a3, rfl, rfl, rfl, w3⟩ := open_int Yba.underlying3 (hval 3 3 v3 rfl rfl) h3
  obtain ⟨a4, rfl, rfl, rfl, w4⟩ := open_int Yba.underlying3 (hval 4 3 v4 rfl rfl) h4
  clear hA0 hval0
  simp only [List.append_nil] at hW'
  refine (walk a0 a1 a2 a3 a4 w0 w1 w2 w3 w4 W).mono fun e W' ⟨he, bel⟩ => ?_
  subst he
  exact ⟨_, rfl, _, _, _, [], [], [], hW', trodAll_mk1 (shut_bool Yba.underlying4 _), (trodAll_cons_mk (shut_int Yba.underlying5 w0) (trodAll_cons_mk (shut_int Yba.underlying3 w1) (trodAll_cons_mk (shut_int Yba.underlying5 w2) (trodAll_cons_mk (shut_int Yba.underlying3 w3) (trodAll_cons_mk (shut_int Yba.underlying3 w4) trodAll_mk0))))), rfl, bel.frame _, fun h => by cases h⟩

theorem over : Rows.lawS2560CEvenRow.holds Yba.pinned (OpenSpec.ofChange Rows.lawS2560CEvenSpec) :=
  OpenClaim.holds_of_wide 6 Yba.f6 rfl rfl rfl rfl rfl rfl rfl ⟨rfl, rfl, rfl, rfl, rfl⟩ rfl rfl rfl rfl rfl (by kernel_rfl) Yba.func6 (by kernel_rfl)
    (of_decide_eq_true (by kernel_rfl)) (by unfold Func.isWrapper; first | (rw [if_pos (by decide +kernel)]; kernel_rfl) | (rw [if_neg (by decide +kernel)]; exact ⟨rfl, rfl⟩))
    (fun os started H enc _ => lifted os started H enc)

/-- ████ THE STATEMENT ████ -/
theorem proved : Rows.LawS2560CEvenSaid :=
  over
#print axioms proved
end Go.Proofs.Ybulkazzm.lawS2560CEven
