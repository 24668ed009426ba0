/-
  (*strides).extend in one contract; frames; newStrides; the two closures.
-/
import Derived.Test.YbulkazzmExtend
import Derived.Deep.AppendLies
namespace Go.Proofs.Ybulkazzm
open Go.ChangeShapes Go.WideShapes Go.ChangeAt Go.RowKit Go.Deep

/-- w' is w but for the blocks of S, and new blocks. -/
structure Fr (w w' : World) (S : Nat → Prop) : Prop where
  os : w'.os = w.os
  tape : w'.tape = w.tape
  output : w'.output = w.output
  size : w.heap.size ≤ w'.heap.size
  block : ∀ k, k < w.heap.size → ¬ S k → w'.heap[k]? = w.heap[k]?
theorem Fr.refl (w : World) (S : Nat → Prop) : Fr w w S := ⟨rfl, rfl, rfl, Nat.le_refl _, fun _ _ _ => rfl⟩
theorem Fr.trans {a b c : World} {S : Nat → Prop} (h : Fr a b S) (k : Fr b c S) : Fr a c S :=
  ⟨k.os.trans h.os, k.tape.trans h.tape, k.output.trans h.output, Nat.le_trans h.size k.size, fun i hi hs => (k.block i (Nat.lt_of_lt_of_le hi h.size) hs).trans (h.block i hi hs)⟩
theorem Fr.mono {a b : World} {S T : Nat → Prop} (h : Fr a b S) (hs : ∀ k, S k → T k) : Fr a b T := ⟨h.os, h.tape, h.output, h.size, fun k hk ht => h.block k hk (fun e => ht (hs k e))⟩
theorem Fr.of_below {a b : World} {S : Nat → Prop} (h : Below a.heap.size a b) : Fr a b S := ⟨h.os, h.tape, h.output, h.size, fun k hk _ => h.block k hk⟩
theorem Fr.drewN {a b : World} {S : Nat → Prop} (h : Fr a b S) (k : Nat) : Fr a (b.drewN k) S := ⟨h.os, h.tape, h.output, h.size, h.block⟩
theorem Fr.setCell {a b : World} {S : Nat → Prop} (h : Fr a b S) (p : Addr) (v : Value) (hp : S p.block) : Fr a (b.setCell p v) S :=
  h.trans ⟨rfl, rfl, rfl, by simp [World.setCell], fun k _ hs => Below.heap_setCell _ _ _ _ (fun e => hs (e ▸ hp))⟩
theorem Fr.alloc {a b : World} {S : Nat → Prop} (h : Fr a b S) (o : Obj) : Fr a (b.alloc o) S :=
  h.trans ⟨rfl, rfl, rfl, by simp, fun k hk _ => Below.heap_alloc _ _ _ hk⟩
theorem Fr.grown {a b c : World} {S : Nat → Prop} {row : Option Nat} (h : Fr a b S) (hg : b.grownBy c row) (hr : ∀ k, row = some k → S k) : Fr a c S :=
  h.trans ⟨hg.os, hg.tape, hg.output, hg.size, fun k hk hs => hg.block k hk (fun e => hs (hr k e.symm))⟩
theorem Fr.below {a b w0 : World} {S : Nat → Prop} {B : Nat} (h : Fr a b S) (hb : Below B w0 a) (hB : B ≤ a.heap.size) (hs : ∀ k, S k → B ≤ k) : Below B w0 b :=
  hb.trans ⟨h.os, h.tape, h.output, h.size, fun k hk => h.block k (by omega) (fun e => by have := hs k e; omega)⟩

theorem Sd.lt {w : World} {x t nn : Nat} {home first : Int} {fv : Value} {ts : List Tri} (h : Sd w x t nn home first fv ts) : x < w.heap.size ∧ t < w.heap.size := ⟨lt_of_block h.bx, lt_of_block h.bt⟩
theorem Sd.frame {w w' : World} {x t nn : Nat} {home first : Int} {fv : Value} {ts : List Tri} {S : Nat → Prop} (h : Sd w x t nn home first fv ts) (f : Fr w w' S) (h1 : ¬ S x) (h2 : ¬ S t) : Sd w' x t nn home first fv ts :=
  h.of_blocks (f.block x h.lt.1 h1) (f.block t h.lt.2 h2)

theorem Fr.two (w : World) (t o1 o2 : Nat) (v1 v2 : Value) (m : Nat) : Fr w (((w.setCell ⟨t, o1, none⟩ v1).setCell ⟨t, o2, none⟩ v2).drewN m) (· = t) :=
  (((Fr.refl w (· = t)).setCell ⟨t, o1, none⟩ v1 rfl).setCell ⟨t, o2, none⟩ v2 rfl).drewN m
theorem Fr.three (w : World) (t o1 o2 o3 : Nat) (v1 v2 v3 : Value) (m : Nat) : Fr w ((((w.setCell ⟨t, o1, none⟩ v1).setCell ⟨t, o2, none⟩ v2).setCell ⟨t, o3, none⟩ v3).drewN m) (· = t) :=
  ((((Fr.refl w (· = t)).setCell ⟨t, o1, none⟩ v1 rfl).setCell ⟨t, o2, none⟩ v2 rfl).setCell ⟨t, o3, none⟩ v3 rfl).drewN m

/-- (*strides).extend: the stride of kind j takes in the task. -/
theorem extend_any {w : World} {x t nn j : Nat} {home first : Int} {fv : Value} {ts : List Tri} (nd gf : Int) (hs : Sd w x t nn home first fv ts) (hn : nn ≤ 16) (hj : j < 2 * nn) (hfit : Fit (ts.getD j (0, 0, 0))) :
    Calls Yba.prog 13 #[.pointer (some ⟨x, 0, none⟩), .int .i64 j, .agg #[.int .i64 nd, .int .i64 gf, .int .i64 0, .int .i64 1]] w fun e w' => (∃ v, e = .returned (.bool v)) ∧
      Sd w' x t nn home first fv (ts.set j (upd gf (ts.getD j (0, 0, 0)))) ∧ Fr w w' (· = t) := by
  obtain ⟨hx, ht⟩ := hs.lt
  have hjl : j < ts.length := by rw [hs.len]; exact hj
  have d0 := hs.bt.c0 j hjl
  have d1 := hs.bt.c1 j hjl
  have d2 := hs.bt.c2 j hjl
  have e0 := hs.bt.free (j * 3)
  have e1 := hs.bt.free (j * 3 + 1)
  have e2 := hs.bt.free (j * 3 + 2)
  obtain ⟨b0, b1, b2⟩ := hfit
  obtain ⟨p, hp⟩ : ∃ p, ts.getD j (0, 0, 0) = p := ⟨_, rfl⟩
  rw [hp] at d0 d1 d2 b0 b1 b2
  have row : ∀ w1 : World, Below w.heap.size w w1 → TRow w1 t ts := fun w1 hb => hs.bt.of_block (hb.block t ht)
  have fin : ∀ (w1 w' : World) (ts' : List Tri), Below w.heap.size w w1 → TRow w' t ts' → ts'.length = ts.length → Fr w1 w' (· = t) → Sd w' x t nn home first fv ts' ∧ Fr w w' (· = t) := fun w1 w' ts' hb hr hl hf =>
    ⟨hs.with_row ((hf.block x (Nat.lt_of_lt_of_le hx hb.size) hs.ne).trans (hb.block x hx)) hr hl, (Fr.of_below hb).trans hf⟩
  rw [hp]
  unfold upd
  by_cases hc : 0 < p.2.2
  · rw [if_pos hc]
    by_cases hc1 : p.2.2 = 1
    · rw [if_pos hc1]
      rw [hc1] at d2
      refine (extend_one x t j (2 * nn) nd gf p.1 p.2.1 w hj (by omega) hs.c4 hx ht d0 d1 d2 e1 e2 b0 b1).mono ?_
      rintro e w' ⟨rfl, w1, hb, m, rfl⟩
      refine ⟨⟨_, rfl⟩, fin w1 _ _ hb ?_ (by simp) (Fr.two w1 t _ _ _ _ m)⟩
      have := (row w1 hb).set12 j hjl (wrap32 (wrap64 (gf - p.1))) 2
      rw [hp] at this
      exact this.drewN m
    · rw [if_neg hc1]
      by_cases hg : gf = wrap64 (p.1 + wrap64 (p.2.2 * p.2.1))
      · rw [if_pos hg]
        refine (extend_yes x t j (2 * nn) nd gf p.1 p.2.1 p.2.2 w hj (by omega) hs.c4 hx ht d0 d1 d2 e1 e2 b0 b1 ⟨by omega, b2.2⟩ (by simpa using hg)).mono ?_
        rintro e w' ⟨rfl, w1, hb, m, rfl⟩
        refine ⟨⟨_, rfl⟩, fin w1 _ _ hb ?_ (by simp) (Fr.two w1 t _ _ _ _ m)⟩
        have := (row w1 hb).set12 j hjl p.2.1 (wrap32 (p.2.2 + 1))
        rw [hp] at this
        exact this.drewN m
      · rw [if_neg hg]
        refine (extend_no x t j (2 * nn) nd gf p.1 p.2.1 p.2.2 w hj (by omega) hs.c4 hx ht d0 d1 d2 e0 e1 e2 b0 b1 ⟨by omega, b2.2⟩ (by simpa using hg)).mono ?_
        rintro e w' ⟨rfl, w1, hb, m, rfl⟩
        exact ⟨⟨_, rfl⟩, fin w1 _ _ hb (((row w1 hb).set012 j hjl _ _ _).drewN m) (by simp) (Fr.three w1 t _ _ _ _ _ _ m)⟩
  · rw [if_neg hc]
    refine (extend_new x t j (2 * nn) nd gf p.1 p.2.1 p.2.2 w hj (by omega) hs.c4 hx ht d0 d1 d2 e0 e1 e2 hc).mono ?_
    rintro e w' ⟨rfl, w1, hb, m, rfl⟩
    exact ⟨⟨_, rfl⟩, fin w1 _ _ hb (((row w1 hb).set012 j hjl _ _ _).drewN m) (by simp) (Fr.three w1 t _ _ _ _ _ _ m)⟩

set_option maxHeartbeats 400000 in
theorem new_low (nn : Nat) (home first : Int) (f : FuncId) (c : Array Value) (M : Array Value) (w : World) (hn : nn ≤ 16)
    (hmk : ∀ w : World, (Instr.makeSlice 32 (.int .i64 (2 * (nn : Int))) (.int .i64 (2 * (nn : Int)))).run Yba.prog w = .ok (.slice (some ⟨w.heap.size, 0, none⟩) (2 * nn) (2 * nn)) (w.alloc (.cells M 37))) :
    Calls Yba.prog 7 #[.int .i64 nn, .int .i64 home, .int .i64 first, .func (.func f) #[] c] w fun e w' => e = .returned (.pointer (some ⟨w.heap.size + 1, 0, none⟩)) ∧
      w' = (w.alloc (.cells M 37)).alloc (.cells #[.int .i64 nn, .int .i64 home, .int .i64 first, .func (.func f) #[] c, .slice (some ⟨w.heap.size, 0, none⟩) (2 * nn) (2 * nn)] 34) := by
  go_enter Yba.func7, Yba.ntmps7
  go_wp2
  go_ret
  exact ⟨rfl, rfl⟩

/-- newStrides. -/
theorem new_any (nn : Nat) (home first : Int) (f : FuncId) (c : Array Value) (w : World) (hn : nn ≤ 16) :
    Calls Yba.prog 7 #[.int .i64 nn, .int .i64 home, .int .i64 first, .func (.func f) #[] c] w fun e w' => e = .returned (.pointer (some ⟨w.heap.size + 1, 0, none⟩)) ∧
      Sd w' (w.heap.size + 1) w.heap.size nn home first (.func (.func f) #[] c) (List.replicate (2 * nn) (0, 0, 0)) ∧ Below w.heap.size w w' ∧ w'.heap.size = w.heap.size + 2 := by
  have hmk : ∀ w : World, (Instr.makeSlice 32 (.int .i64 (2 * (nn : Int))) (.int .i64 (2 * (nn : Int)))).run Yba.prog w = .ok (.slice (some ⟨w.heap.size, 0, none⟩) (2 * nn) (2 * nn)) (w.alloc (.cells (flat (List.replicate (2 * nn) (0, 0, 0))).toArray 37)) := fun w => by
    have := made_strides (2 * nn) (by omega) w
    rwa [show ((2 * nn : Nat) : Int) = 2 * (nn : Int) by omega] at this
  refine (new_low nn home first f c _ w hn hmk).mono ?_
  rintro e w' ⟨rfl, rfl⟩
  refine ⟨rfl, ⟨?_, ?_, by simp⟩, ((Below.refl _ w).alloc (Nat.le_refl _) _).alloc (by simp) _, by simp⟩
  · exact heap_alloc2_new w _ _
  · exact heap_alloc2_old w _ _
end Go.Proofs.Ybulkazzm
