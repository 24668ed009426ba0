/-
  The walk of (*strides).put, with either closure.
-/
import Derived.Test.YbulkazzmCalls
import Derived.Deep.RegionWith
import Derived.Deep.CutRange
namespace Go.Proofs.Ybulkazzm
open Go.ChangeShapes Go.WideShapes Go.ChangeAt Go.RowKit Go.Deep

theorem Sd.drew {w : World} {x t nn : Nat} {home first : Int} {fv : Value} {ts : List Tri} (h : Sd w x t nn home first fv ts) : Sd w.drew x t nn home first fv ts := ⟨h.bx, h.bt, h.len⟩

theorem Fr.from_drew {w w' : World} {S : Nat → Prop} (h : Fr w.drew w' S) : Fr w w' S := ⟨h.os, h.tape, h.output, h.size, h.block⟩

set_option maxRecDepth 10000 in
set_option maxHeartbeats 1000000 in
/-- put, as LawS2560BStrides comes to it. -/
theorem put_count {w : World} {x t nn n cb : Nat} {home first k cn : Int} {ts : List Tri} (hs : Sd w x t nn home first (.func (.func 10) #[] #[.pointer (some ⟨cb, 0, none⟩)]) ts) (hn : nn ≤ 16) (h1 : 1 ≤ n) (h2 : n ≤ nn)
    (hfit : ∀ j, Fit (ts.getD j (0, 0, 0))) (hb : w.heap[cb]? = some (.cells #[.int .i64 cn] 3 (0, 0))) (h0 : 0 ≤ cn) (hcn : cn ≤ 5000) :
    Calls Yba.prog 9 #[.pointer (some ⟨x, 0, none⟩), .int .i64 k, .int .i64 n] w fun e w' => e = .returned (.tuple #[]) ∧
      Sd w' x t nn home first (.func (.func 10) #[] #[.pointer (some ⟨cb, 0, none⟩)]) (ts.set (kd home k nn n) (upd (wrap64 (first + k)) (ts.getD (kd home k nn n) (0, 0, 0)))) ∧
      w'.heap[cb]? = some (.cells #[.int .i64 (cn + 1)] 3 (0, 0)) ∧ Fr w w' (fun b => b = t ∨ b = cb) := by
  obtain ⟨hx, ht⟩ := hs.lt
  have c2 := hs.c2
  have hcl := lt_of_block hb
  have HS1 : Hid (Sd (w.alloc (.cells #[.int .i64 n, .int .i64 (wrap64 (first + k)), .int .i64 0, .int .i64 1] 27)) x t nn home first (.func (.func 10) #[] #[.pointer (some ⟨cb, 0, none⟩)]) ts) := hs.alloc _
  have HF : Hid (∀ j, Fit (ts.getD j (0, 0, 0))) := hfit
  have HB : Hid ((w.alloc (.cells #[.int .i64 n, .int .i64 (wrap64 (first + k)), .int .i64 0, .int .i64 1] 27)).heap[cb]? = some (.cells #[.int .i64 cn] 3 (0, 0))) := (Below.heap_alloc w _ cb hcl).trans hb
  have hcx : cb ≠ x := fun e => by rw [e, hs.bx] at hb; simp at hb
  have hct : cb ≠ t := fun e => by rw [e, show w.heap[t]? = _ from hs.bt] at hb; simp at hb
  clear hs hfit hb
  go_enter Yba.func9, Yba.ntmps9
  go_upto_region 1 with fail
  go_cut [] from 7 to 21 (fun wx => Sd wx x t nn home first (.func (.func 10) #[] #[.pointer (some ⟨cb, 0, none⟩)]) (ts.set (kd home k nn n) (upd (wrap64 (first + k)) (ts.getD (kd home k nn n) (0, 0, 0)))) ∧ Fr (w.alloc (.cells #[.int .i64 n, .int .i64 (wrap64 (first + k)), .int .i64 0, .int .i64 1] 27)) wx (· = t))
  case first =>
    go_region_with (first
      | (go_at_call 14; refine (kind_any HS1.out.drew h1 h2 hn).mono ?_; rintro e w1 ⟨rfl, m, rfl⟩)
      | (go_at_call 13; refine (extend_any _ _ (HS1.out.drewN _) hn (kd_lt h1 h2) (HF.out _)).mono ?_; rintro e w2 ⟨⟨q, rfl⟩, hs2, hf2⟩))
    all_goals go_wp2
    all_goals go_meet
    all_goals exact ⟨hs2, ((Fr.refl _ _).drewN _).trans hf2⟩
  case rest =>
    obtain ⟨hs2, hf2⟩ := hcut
    have hb2 := (hf2.block cb (by simp; omega) hct).trans HB.out
    have g0 : wc.heap[w.heap.size]? = _ := (hf2.block w.heap.size (by simp) (by omega)).trans (heap_alloc_new w _)
    have g1 : wc.cell? ⟨w.heap.size, 0, none⟩ = some (.int .i64 n) := by simp [World.cell?, g0]
    have g2 : wc.cell? ⟨w.heap.size, 1, none⟩ = some (.int .i64 (wrap64 (first + k))) := by simp [World.cell?, g0]
    have g3 : wc.cell? ⟨w.heap.size, 2, none⟩ = some (.int .i64 0) := by simp [World.cell?, g0]
    have g4 : wc.cell? ⟨w.heap.size, 3, none⟩ = some (.int .i64 1) := by simp [World.cell?, g0]
    have c3 := hs2.c3
    have H2 : Hid (_ ∧ _ ∧ _) := ⟨hs2, hf2, hb2⟩
    clear hs2 hf2 hb2 g0 HS1 HF HB
    go_wp2
    go_region_with (go_at_call 10; refine (count_any cb cn _ _ _ _ _ h0 hcn (by exact H2.out.2.2)).mono ?_; rintro e w3 ⟨rfl, hb3, hf3⟩)
    all_goals go_wp2
    all_goals go_end0
    all_goals exact ⟨rfl, H2.out.1.frame hf3.from_drew (Ne.symm hcx) (Ne.symm hct), hb3, (((Fr.refl w _).alloc _).trans (H2.out.2.1.mono (fun b h => .inl h))).trans (hf3.from_drew.mono (fun b h => .inr h))⟩
set_option maxRecDepth 10000 in
set_option maxHeartbeats 1000000 in
/-- put, as LawS2560BPlaces comes to it. -/
theorem put_log {w : World} {x t nn n cb base ln : Nat} {home first k : Int} {v : Value} {xs : List Value} {ts : List Tri} (hs : Sd w x t nn home first (.func (.func 8) #[] #[.pointer (some ⟨cb, 0, none⟩)]) ts) (hn : nn ≤ 16) (h1 : 1 ≤ n) (h2 : n ≤ nn)
    (hfit : ∀ j, Fit (ts.getD j (0, 0, 0))) (hb : w.heap[cb]? = some (.cells #[v] 23 (0, 0))) (hown : w.ownsRow base 27 4 v ln xs) (hbase : base ≤ w.heap.size) (hln : ln ≤ 5000) :
    Calls Yba.prog 9 #[.pointer (some ⟨x, 0, none⟩), .int .i64 k, .int .i64 n] w fun e w' => e = .returned (.tuple #[]) ∧
      Sd w' x t nn home first (.func (.func 8) #[] #[.pointer (some ⟨cb, 0, none⟩)]) (ts.set (kd home k nn n) (upd (wrap64 (first + k)) (ts.getD (kd home k nn n) (0, 0, 0)))) ∧
      ∃ g cap, w'.heap[cb]? = some (.cells #[.slice (some ⟨g, 0, none⟩) (ln + 1) cap] 23 (0, 0)) ∧ w'.ownsRow base 27 4 (.slice (some ⟨g, 0, none⟩) (ln + 1) cap) (ln + 1) (xs ++ [.int .i64 n, .int .i64 (wrap64 (first + k)), .int .i64 0, .int .i64 1]) ∧
        Fr w w' (fun b => b = t ∨ b = cb ∨ v.ownBlock = some b) := by
  obtain ⟨hx, ht⟩ := hs.lt
  have c2 := hs.c2
  have hcl := lt_of_block hb
  have HS1 : Hid (Sd (w.alloc (.cells #[.int .i64 n, .int .i64 (wrap64 (first + k)), .int .i64 0, .int .i64 1] 27)) x t nn home first (.func (.func 8) #[] #[.pointer (some ⟨cb, 0, none⟩)]) ts) := hs.alloc _
  have HF : Hid (∀ j, Fit (ts.getD j (0, 0, 0))) := hfit
  have HB : Hid ((w.alloc (.cells #[.int .i64 n, .int .i64 (wrap64 (first + k)), .int .i64 0, .int .i64 1] 27)).heap[cb]? = some (.cells #[v] 23 (0, 0))) := (Below.heap_alloc w _ cb hcl).trans hb
  have hcx : cb ≠ x := fun e => by rw [e, hs.bx] at hb; simp at hb
  have hct : cb ≠ t := fun e => by rw [e, show w.heap[t]? = _ from hs.bt] at hb; simp at hb
  have hxr : v.ownBlock ≠ some x := fun e => by
    rcases hown.2 with ⟨h1, _⟩ | ⟨g, cap, cur, h1, _, hh, _⟩
    · rw [h1] at e; cases e
    · rw [h1] at e
      have e' : g = x := by simpa [Value.ownBlock] using e
      rw [e', hs.bx] at hh
      simp at hh
  have htr : v.ownBlock ≠ some t := fun e => by
    rcases hown.2 with ⟨h1, _⟩ | ⟨g, cap, cur, h1, _, hh, _⟩
    · rw [h1] at e; cases e
    · rw [h1] at e
      have e' : g = t := by simpa [Value.ownBlock] using e
      rw [e', show w.heap[t]? = _ from hs.bt] at hh
      simp at hh
  have HO : Hid ((w.alloc (.cells #[.int .i64 n, .int .i64 (wrap64 (first + k)), .int .i64 0, .int .i64 1] 27)).ownsRow base 27 4 v ln xs ∧ base ≤ w.heap.size) := ⟨hown.alloc _, hbase⟩
  have HX : Hid (v.ownBlock ≠ some x ∧ v.ownBlock ≠ some t) := ⟨hxr, htr⟩
  clear hs hfit hb hown hbase hxr htr
  go_enter Yba.func9, Yba.ntmps9
  go_upto_region 1 with fail
  go_cut [] from 7 to 21 (fun wx => Sd wx x t nn home first (.func (.func 8) #[] #[.pointer (some ⟨cb, 0, none⟩)]) (ts.set (kd home k nn n) (upd (wrap64 (first + k)) (ts.getD (kd home k nn n) (0, 0, 0)))) ∧ Fr (w.alloc (.cells #[.int .i64 n, .int .i64 (wrap64 (first + k)), .int .i64 0, .int .i64 1] 27)) wx (· = t))
  case first =>
    go_region_with (first
      | (go_at_call 14; refine (kind_any HS1.out.drew h1 h2 hn).mono ?_; rintro e w1 ⟨rfl, m, rfl⟩)
      | (go_at_call 13; refine (extend_any _ _ (HS1.out.drewN _) hn (kd_lt h1 h2) (HF.out _)).mono ?_; rintro e w2 ⟨⟨q, rfl⟩, hs2, hf2⟩))
    all_goals go_wp2
    all_goals go_meet
    all_goals exact ⟨hs2, ((Fr.refl _ _).drewN _).trans hf2⟩
  case rest =>
    obtain ⟨hs2, hf2⟩ := hcut
    have hb2 := (hf2.block cb (by simp; omega) hct).trans HB.out
    have g0 : wc.heap[w.heap.size]? = _ := (hf2.block w.heap.size (by simp) (by omega)).trans (heap_alloc_new w _)
    have g1 : wc.cell? ⟨w.heap.size, 0, none⟩ = some (.int .i64 n) := by simp [World.cell?, g0]
    have g2 : wc.cell? ⟨w.heap.size, 1, none⟩ = some (.int .i64 (wrap64 (first + k))) := by simp [World.cell?, g0]
    have g3 : wc.cell? ⟨w.heap.size, 2, none⟩ = some (.int .i64 0) := by simp [World.cell?, g0]
    have g4 : wc.cell? ⟨w.heap.size, 3, none⟩ = some (.int .i64 1) := by simp [World.cell?, g0]
    have c3 := hs2.c3
    have ho2 : wc.ownsRow base 27 4 v ln xs := HO.out.1.kept ⟨hf2.os, hf2.tape, hf2.output, hf2.size, fun b hb hne => hf2.block b hb (fun e => hne (by rw [e]))⟩ (row := some t) (.inr HX.out.2)
    have H2 : Hid (_ ∧ _ ∧ _ ∧ _) := ⟨hs2, hf2, hb2, ho2⟩
    clear hs2 hf2 hb2 ho2 g0 HS1 HF HB
    go_wp2
    go_region_with (go_at_call 8; refine (log_any cb base ln v xs _ _ _ _ _ hln (by exact H2.out.2.2.1) (by exact H2.out.2.2.2) (by have := H2.out.2.1.size; have := HO.out.2; simp at *; omega)).mono ?_; rintro e w3 ⟨rfl, g, cap, hb3, ho3, hf3⟩)
    all_goals go_wp2
    all_goals go_end0
    all_goals exact ⟨rfl, H2.out.1.frame hf3.from_drew (fun e => e.elim (Ne.symm hcx) HX.out.1) (fun e => e.elim (Ne.symm hct) HX.out.2), g, cap, hb3, ho3, (((Fr.refl w _).alloc _).trans (H2.out.2.1.mono (fun b h => .inl h))).trans (hf3.from_drew.mono (fun b h => .inr h))⟩
end Go.Proofs.Ybulkazzm
