/-
  LawS2560CTable, proved (the frame after the given shell).
-/
import Derived.Test.YbulkazzmRows
import Derived.WalkKit
import Derived.ProofKit
import Derived.OpenShut
import Derived.ShutString
import Derived.ChangeOld
import Derived.Below
import Derived.Laws.CopyOwn
import Derived.Deep.CutRange
import Derived.Test.YbulkazzmOwn
namespace Go.Proofs.Ybulkazzm.lawS2560CTable
open Go.ChangeShapes Go.WideShapes Go.ChangeAt Go.RowKit Go.Deep
set_option linter.unusedVariables false

theorem own : ownKnob Yba.prog.godebug = none := by kernel_rfl
theorem laidOut : laidOutB Yba.prog = true := by kernel_rfl

/-- WHAT THE WALK IS TOLD OF A SLICE OF INTEGERS THAT CAME IN: it is nil; or it leads to a row of 'cap' cells, the numbers 'zs' (the first 'len' are its elements, the rest its spare room), each fitting its kind. -/
def IsRow (k : IntKind) (w : World) (a : Option Addr) (len cap : Nat) (zs : List Int) : Prop :=
  (a = none ∧ len = 0 ∧ cap = 0 ∧ zs = []) ∨
  ∃ x, a = some x ∧ len ≤ cap ∧ cap ≤ maxLen ∧ zs.length = cap ∧ (∀ i, i < zs.length → w.cell? (x.add i) = some (.int k (zs.getD i 0))) ∧ ∀ n ∈ zs, (Lit.int k n).wf = true

/-! ### THE WALK -/
theorem size3 : (Yba.prog.info? 3).map (·.size) = some 1 := by kernel_rfl

theorem long (a0 : Int) (a1 : Option Addr) (len cap : Nat) (a2 : Int) (w : World) (hl : ¬ len ≤ 1024) (hm : len ≤ 9223372036854775807) :
    Calls Yba.prog 5 #[.int .i64 a0, .slice a1 len cap, .int .i64 a2] w fun e w' => e = .returned (.bool true) ∧ Below w.heap.size w w' := by
  go_enter Yba.func5, Yba.ntmps5
  go_wp2
  go_ret
  exact ⟨rfl, Below.refl _ _⟩

/-- zzs2560cAllEqual, its answer and the length under a name. -/
theorem equal_at (a : Option Addr) (cap len : Nat) (zs : List Int) (s : Int) (q : Bool) (w : World) (hlen : zs.length = len) (hl : len ≤ 1024) (h : Ints w a zs) (hq : allEq zs s = q) :
    Calls Yba.prog 12 #[.slice a len cap, .int .i64 s] w fun e w' => e = .returned (.bool q) ∧ w' = w := by
  subst hlen
  subst hq
  exact equal_any a cap zs s w hl h

/-- The row that copy leaves. -/
theorem copied {w : World} {b len : Nat} {zs : List Int} (hz : zs.length = len) (h : w.heap[b]? = some (.cells (splice ((List.replicate len (0 : Int)).map (Value.int .i64)) 0 (zs.map (Value.int .i64))).toArray 3 (0, 0))) : IRow w b zs := by
  unfold IRow
  rw [h]
  simp [splice, hz]

set_option maxHeartbeats 1000000 in
theorem short (a0 : Int) (a1 : Option Addr) (len cap : Nat) (zs : List Int) (a2 : Int) (w : World) (hl : len ≤ 1024) (hz : zs.length = len) (h : Ints w a1 zs) :
    Calls Yba.prog 5 #[.int .i64 a0, .slice a1 len cap, .int .i64 a2] w fun e w' => e = .returned (.bool true) ∧ Below w.heap.size w w' := by
  have hmk := made len (by omega)
  obtain ⟨M, hM⟩ : ∃ M, ((List.replicate len (0 : Int)).map (Value.int .i64)) = M := ⟨_, rfl⟩
  rw [hM] at hmk
  have HM : Hid (((List.replicate len (0 : Int)).map (Value.int .i64)) = M ∧ zs.length = len ∧ Ints w a1 zs) := ⟨hM, hz, h⟩
  have hb1 : Below w.heap.size w (w.alloc (.cells M.toArray 3)) := (Below.refl _ _).alloc (Nat.le_refl _) _
  have hi1 := h.below hb1
  have hml : M.length = len := by rw [← hM]; simp
  have HC : Hid (0 < (zs.map (Value.int .i64)).length → (some (⟨w.heap.size, 0, none⟩ : Addr)) = some ⟨w.heap.size, 0, none⟩ ∧ ∃ ad, a1 = some ad ∧ ∀ (j : Nat) v, (zs.map (Value.int .i64))[j]? = some v → (w.alloc (.cells M.toArray 3)).cell? (ad.add j) = some v) := by
    intro hp
    refine ⟨rfl, ?_⟩
    rcases hi1 with rfl | ⟨b, off, rfl, _, hc⟩
    · simp at hp
    · refine ⟨_, rfl, fun j v hj => ?_⟩
      have hjl : j < zs.length := by
        have := (List.getElem?_eq_some_iff.1 hj).1
        simpa using this
      rw [add_plain, hc j hjl]
      simp [List.getElem?_map, List.getElem?_eq_getElem hjl] at hj
      simp [hjl, hj]
  have HL : Hid (M.length = len ∧ Below w.heap.size w (w.alloc (.cells M.toArray 3)) ∧ (w.alloc (.cells M.toArray 3)).heap[w.heap.size]? = some (.cells M.toArray 3 (0, 0))) := ⟨hml, hb1, heap_alloc_new w _⟩
  clear hM hb1 hi1 hml hz h
  go_enter Yba.func5, Yba.ntmps5
  go_upto_region 4 with fail
  go_cut [] from 17 to 19 (fun wx => IRow wx w.heap.size zs ∧ Below w.heap.size w wx)
  case first =>
    go_wp2_with (refine wpList_copy_splice rfl (.tmp 17) (.tmp 18) 38 38 rfl 3 Yba.underlying38 size3 (some ⟨w.heap.size, 0, none⟩) a1 len len len cap rfl rfl w.heap.size 0 M 3 HL.out.2.2 (zs.map (Value.int .i64)) (by simp [HM.out.2.1]) HC.out (by simp [HM.out.2.1, HL.out.1]) (by simp [Value.oneCell']) w.heap.size w HL.out.2.1 (Nat.le_refl _) ?_; intro w2 hg2 hb2)
    go_meet
    case rel => exact ⟨copied HM.out.2.1 (by rw [HM.out.1]; exact hg2.out), hb2⟩
  case rest =>
    obtain ⟨hr, hb⟩ := hcut
    have HR : Hid (IRow wc w.heap.size zs ∧ Below w.heap.size w wc) := ⟨hr, hb⟩
    clear hr hb
    have t1 : (a2 == a2) = true := by simp
    have t2 : ((0 : Int) == 0) = true := by simp
    have hfin : ∀ w1, Below (wc.alloc (.cells #[.int .i64 a0, .slice (some ⟨w.heap.size, 0, none⟩) len len] 40)).heap.size (wc.alloc (.cells #[.int .i64 a0, .slice (some ⟨w.heap.size, 0, none⟩) len len] 40)) w1 → Below w.heap.size w w1 := fun w1 h1 =>
      (HR.out.2.alloc HR.out.2.size _).trans (h1.mono (by have := HR.out.2.size; simp; omega))
    have HF : Hid _ := hfin
    clear hfin
    have hin : Ints (wc.alloc (.cells #[.int .i64 a0, .slice (some ⟨w.heap.size, 0, none⟩) len len] 40)) (some ⟨w.heap.size, 0, none⟩) zs := HR.out.1.ints.below ((Below.refl _ _).alloc (Nat.le_refl _) _)
    have HI : Hid (Ints (wc.alloc (.cells #[.int .i64 a0, .slice (some ⟨w.heap.size, 0, none⟩) len len] 40)) (some ⟨w.heap.size, 0, none⟩) zs) := hin
    clear hin hmk
    obtain ⟨q, hq⟩ : ∃ q, allEq zs a0 = q := ⟨_, rfl⟩
    have HQ : Hid (allEq zs a0 = q) := hq
    clear hq
    cases q
    · go_wp2_with (first
        | (go_at_call 11; refine (repeats_at _ _ _ _ _ _ zs a0 a2 0 _ HM.out.2.1 hl HI.out (by rw [HQ.out]; rfl)).mono ?_; rintro e w1 ⟨rfl, hB1⟩; have HB1 : Hid (Below w.heap.size w w1) := (HF.out _ hB1); clear hB1)
        | (go_at_call 12; refine (equal_at _ _ len zs a0 false _ HM.out.2.1 hl (HM.out.2.2.below HB1.out) HQ.out).mono ?_; rintro e w2 ⟨rfl, rfl⟩))
      go_ret
      exact ⟨rfl, HB1.out⟩
    · go_wp2_with (first
        | (go_at_call 11; refine (repeats_at _ _ _ _ _ _ zs a0 a2 a2 _ HM.out.2.1 hl HI.out (by rw [HQ.out]; rfl)).mono ?_; rintro e w1 ⟨rfl, hB1⟩; have HB1 : Hid (Below w.heap.size w w1) := (HF.out _ hB1); clear hB1)
        | (go_at_call 12; refine (equal_at _ _ len zs a0 true _ HM.out.2.1 hl (HM.out.2.2.below HB1.out) HQ.out).mono ?_; rintro e w2 ⟨rfl, rfl⟩))
      go_ret
      exact ⟨rfl, HB1.out⟩

theorem walk (a0 : Int) (a1 : Option Addr) (len1 cap1 : Nat) (z1 : List Int) (a2 : Int) (w : World) (w0 : (Lit.int .i64 a0).wf = true) (w1 : IsRow .i64 w a1 len1 cap1 z1) (w2 : (Lit.int .i64 a2).wf = true) :
    Calls Yba.prog 5 #[.int .i64 a0, .slice a1 len1 cap1, .int .i64 a2] w fun e w' => e = .returned (.bool true) ∧ Below w.heap.size w w' := by
  rcases w1 with ⟨rfl, rfl, rfl, rfl⟩ | ⟨x, rfl, hlc, hm, hz, hc, _⟩
  · exact short a0 none 0 0 [] a2 w (by omega) rfl (.inl rfl)
  · by_cases hl : len1 ≤ 1024
    · refine short a0 (some x) len1 cap1 (z1.take len1) a2 w hl (by simp; omega) ?_
      by_cases h0 : len1 = 0
      · left; simp [h0]
      · obtain ⟨b, off, rfl, hcc⟩ := ints_at hc (by omega)
        refine .inr ⟨b, off, rfl, block_lt_of_cell (hcc 0 (by omega)), fun i hi => ?_⟩
        simp at hi
        have hi2 : i < z1.length := by omega
        rw [hcc i hi2]
        simp [hi2, hi]
    · unfold maxLen at hm
      exact long a0 (some x) len1 cap1 a2 w hl (by omega)

/-! ### THE ROW's STEP: WRITTEN OUT: LEAVE IT -/
set_option maxRecDepth 100000 in
theorem lifted (os : Os) (started : os.Started) (H : Type) (enc : TypeId × Value → H) :
    ReturnsInHanded {} Yba.checked os 5 .any (Rows.lawS2560CTableSpec.pre6 enc Yba.prog Yba.f5 Rows.lawS2560CTableRow.domain false) (Rows.lawS2560CTableSpec.post enc Yba.prog Yba.f5 false true false false) := by
  refine returnsInHanded_of_change (C := Yba.checked) own started (by kernel_rfl) Yba.func5
    (ChangeSpec.witness6 (enc := enc) (C := Yba.checked) false ⟨#[], #[.int .i64 0, .slice none 0 0, .int .i64 0], []⟩ 8 (by kernel_rfl) (by kernel_rfl) (by kernel_rfl) (by kernel_rfl)) ?_
  intro W base args ds gs before hval0 hW hcnd _
  have hval : ∀ (j : Nat) t v, Yba.f5.params[j]? = some t → args[j]? = some v → Value.okWide Yba.prog W .any base t v := hval0
  have hW' := hW
  obtain ⟨p, q, hA0, hV, rfl, hfz, hnd⟩ := hW
  have hA : DataW.TrodAll enc Yba.prog W 0 (fun _ => true) true Yba.f5.params.toList args.toList ds p := hA0
  rw [Yba.params5] at hA hval
  obtain ⟨v0, vs0, d0, ds0, p0, q0, hargs, rfl, rfl, h0, r0⟩ := trodAll_cons hA
  obtain ⟨v1, vs1, d1, ds1, p1, q1, rfl, rfl, rfl, h1, r1⟩ := trodAll_cons r0
  obtain ⟨v2, vs2, d2, ds2, p2, q2, rfl, rfl, rfl, h2, r2⟩ := trodAll_cons r1
  obtain ⟨rfl, rfl, rfl⟩ := trodAll_nil r2
  obtain rfl : args = #[v0, v1, v2] := by cases args; simp_all
  obtain ⟨rfl, rfl⟩ := trodVars_none hV
  obtain ⟨a0, rfl, rfl, rfl, w0⟩ := open_int Yba.underlying3 (hval 0 3 v0 rfl rfl) h0
  obtain ⟨a1, len1, cap1, rfl⟩ := okWide_slice Yba.underlying38 (hval 1 38 v1 rfl rfl)
  have k1 := h1
  have lt1 : ∀ x ∈ p1, x.block < W.heap.size := by obtain ⟨m, hm⟩ := k1; exact DataW.trod_lt m _ _ _ hm
  obtain ⟨z1, w1⟩ : ∃ zs, IsRow .i64 W a1 len1 cap1 zs := by
    obtain ⟨fuel, hf⟩ := h1
    rcases open_ints Yba.underlying38 Yba.underlying3 (by kernel_rfl) hf with ⟨hcs, _⟩ | ⟨x, l, c, zs, hcs, _, hl, hm, hz, _, hcell, hwz⟩
    · simp [Value.cells] at hcs
      obtain ⟨rfl, rfl, rfl⟩ := hcs
      exact ⟨[], .inl ⟨rfl, rfl, rfl, rfl⟩⟩
    · simp [Value.cells] at hcs
      obtain ⟨rfl, rfl, rfl⟩ := hcs
      exact ⟨zs, .inr ⟨_, rfl, hl, hm, by simpa using hz, hcell, hwz⟩⟩
  obtain ⟨a2, rfl, rfl, rfl, w2⟩ := open_int Yba.underlying3 (hval 2 3 v2 rfl rfl) h2
  clear hA0 hval0
  refine (walk a0 a1 len1 cap1 z1 a2 W w0 w1 w2).mono fun e W' ⟨he, bel⟩ => ?_
  subst he
  exact ⟨_, rfl, _, _, _, [], _, [], hW', trodAll_mk1 (shut_bool Yba.underlying4 _), (trodAll_cons_mk (shut_int Yba.underlying3 w0) (trodAll_cons_mk (Below.trod laidOut (by kernel_rfl) (of_decide_eq_true (by kernel_rfl)) k1 bel lt1) (trodAll_cons_mk (shut_int Yba.underlying3 w2) trodAll_mk0))), rfl, bel.frame _, fun h => by cases h⟩

theorem over : Rows.lawS2560CTableRow.holds Yba.pinned (OpenSpec.ofChange Rows.lawS2560CTableSpec) :=
  OpenClaim.holds_of_wide 5 Yba.f5 rfl rfl rfl rfl rfl rfl rfl ⟨rfl, rfl, rfl, rfl, rfl⟩ rfl rfl rfl rfl rfl (by kernel_rfl) Yba.func5 (by kernel_rfl)
    (of_decide_eq_true (by kernel_rfl)) (by unfold Func.isWrapper; first | (rw [if_pos (by decide +kernel)]; kernel_rfl) | (rw [if_neg (by decide +kernel)]; exact ⟨rfl, rfl⟩))
    (fun os started H enc _ => lifted os started H enc)

/-- ████ THE STATEMENT ████ -/
theorem proved : Rows.LawS2560CTableSaid := over
#print axioms proved
end Go.Proofs.Ybulkazzm.lawS2560CTable
