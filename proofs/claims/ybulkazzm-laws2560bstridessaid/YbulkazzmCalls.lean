/-
  The two closures that the laws hand to newStrides.
-/
import Derived.Test.YbulkazzmPut
namespace Go.Proofs.Ybulkazzm
open Go.ChangeShapes Go.WideShapes Go.ChangeAt Go.RowKit Go.Deep

set_option maxHeartbeats 400000 in
theorem count_low (cb : Nat) (n a b c d : Int) (w : World) (h0 : 0 ≤ n) (hn : n ≤ 5000) (hlt : cb < w.heap.size) (hc : w.cell? ⟨cb, 0, none⟩ = some (.int .i64 n)) (hf : w.frozen? ⟨cb, 0, none⟩ = false) :
    Calls Yba.prog 10 #[.agg #[.int .i64 a, .int .i64 b, .int .i64 c, .int .i64 d], .pointer (some ⟨cb, 0, none⟩)] w fun e w' => e = .returned (.tuple #[]) ∧
      w' = (w.setCell ⟨cb, 0, none⟩ (.int .i64 (n + 1))).alloc (.cells #[.int .i64 a, .int .i64 b, .int .i64 c, .int .i64 d] 27) := by
  go_enter Yba.func10, Yba.ntmps10
  go_wp2
  go_end0
  exact ⟨rfl, rfl⟩

/-- LawS2560BStrides' closure: it counts. -/
theorem count_any (cb : Nat) (n a b c d : Int) (w : World) (h0 : 0 ≤ n) (hn : n ≤ 5000) (hb : w.heap[cb]? = some (.cells #[.int .i64 n] 3 (0, 0))) :
    Calls Yba.prog 10 #[.agg #[.int .i64 a, .int .i64 b, .int .i64 c, .int .i64 d], .pointer (some ⟨cb, 0, none⟩)] w fun e w' => e = .returned (.tuple #[]) ∧
      w'.heap[cb]? = some (.cells #[.int .i64 (n + 1)] 3 (0, 0)) ∧ Fr w w' (· = cb) := by
  refine (count_low cb n a b c d w h0 hn (lt_of_block hb) (cell_of_one hb) (free_of_one hb)).mono ?_
  rintro e w' ⟨rfl, rfl⟩
  refine ⟨rfl, ?_, ((Fr.refl w (· = cb)).setCell ⟨cb, 0, none⟩ _ rfl).alloc _⟩
  rw [Below.heap_alloc _ _ _ (by simpa [World.setCell] using lt_of_block hb)]
  exact one_setCell hb

theorem info27 : (Yba.prog.info? 27).map (fun i => (i.zero, i.size, i.bytes)) = some (some (.agg #[.int .i64 0, .int .i64 0, .int .i64 0, .int .i64 0]), 4, 32) := by kernel_rfl

set_option maxRecDepth 10000 in
set_option maxHeartbeats 400000 in
/-- LawS2560BPlaces' closure: it appends the group to its log. -/
theorem log_any (lb base n : Nat) (v : Value) (xs : List Value) (a b c d : Int) (w : World) (hn : n ≤ 5000) (hb : w.heap[lb]? = some (.cells #[v] 23 (0, 0))) (hown : w.ownsRow base 27 4 v n xs) (hbase : base ≤ w.heap.size) :
    Calls Yba.prog 8 #[.agg #[.int .i64 a, .int .i64 b, .int .i64 c, .int .i64 d], .pointer (some ⟨lb, 0, none⟩)] w fun e w' => e = .returned (.tuple #[]) ∧
      ∃ g cap, w'.heap[lb]? = some (.cells #[.slice (some ⟨g, 0, none⟩) (n + 1) cap] 23 (0, 0)) ∧ w'.ownsRow base 27 4 (.slice (some ⟨g, 0, none⟩) (n + 1) cap) (n + 1) (xs ++ [.int .i64 a, .int .i64 b, .int .i64 c, .int .i64 d]) ∧
        Fr w w' (fun k => k = lb ∨ v.ownBlock = some k) := by
  obtain ⟨i0, hi, hz0, hz1, hz2⟩ := info_parts info27
  have hlt := lt_of_block hb
  have hc := cell_of_one hb
  have hfz := free_of_one hb
  have hv : ∃ o k cp, v = .slice o k cp := by
    rcases hown.2 with ⟨rfl, _⟩ | ⟨g, cap, cur, rfl, _⟩
    · exact ⟨_, _, _, rfl⟩
    · exact ⟨_, _, _, rfl⟩
  obtain ⟨vo, vk, vc, rfl⟩ := hv
  have HO : Hid (w.ownsRow base 27 4 (.slice vo vk vc) n xs ∧ w.heap[lb]? = some (.cells #[.slice vo vk vc] 23 (0, 0))) := ⟨hown, hb⟩
  have HN : Hid (some lb ≠ (Value.slice vo vk vc).ownBlock) := fun e => by
    rcases hown.2 with ⟨h1, _⟩ | ⟨g, cap, cur, h1, _, hh, _⟩
    · rw [h1] at e; cases e
    · rw [h1] at e
      have e' : lb = g := by simpa [Value.ownBlock] using e
      rw [e', hh] at hb
      simp at hb
  have HB2 : Hid (((w.alloc (.cells #[.int .i64 a, .int .i64 b, .int .i64 c, .int .i64 d] 27)).alloc (.cells #[.int .i64 a, .int .i64 b, .int .i64 c, .int .i64 d] 27)).heap[lb]? = some (.cells #[.slice vo vk vc] 23 (0, 0))) := by
    show _ = _
    rw [Below.heap_alloc _ _ _ (by simp; omega), Below.heap_alloc _ _ _ hlt]
    exact hb
  clear hown hb
  go_enter Yba.func8, Yba.ntmps8
  go_wp2_with (at_builtin; refine wpList_append_lies _ rfl _ _ 23 rfl base 27 i0 (.agg #[.int .i64 0, .int .i64 0, .int .i64 0, .int .i64 0]) 4 32 Yba.underlying23 hi hz0 hz1 hz2 rfl (by omega) (.slice vo vk vc) n xs rfl ((HO.out.1.alloc _).alloc _) ⟨w.heap.size + 1, 0, none⟩ 1 1 [.int .i64 a, .int .i64 b, .int .i64 c, .int .i64 d] rfl rfl (World.news_of_block (heap_alloc2_new w _ _)) (by simp [Value.oneCell']) (by omega) (by unfold maxLen; omega) (by omega) (by simp; omega) (w.heap.size + 1 + 1) (by simp) ?_; intro g cap w1 hown1 hgrow hat hlt1; have hb1 := (hgrow.block lb (by simp; omega) HN.out).trans HB2.out; have hc1 := cell_of_one hb1; have hf1 := free_of_one hb1; have HG : Hid (_ ∧ _ ∧ _ ∧ _ ∧ _) := ⟨hown1, hgrow, hat, hlt1, hb1⟩; clear hown1 hgrow hat hlt1 hb1)
  go_end0
  obtain ⟨o1, g1, a1, l1, b1⟩ := HG.out
  refine ⟨rfl, g, cap, one_setCell b1, ?_, ?_⟩
  · refine ownsRow_setCell_other o1 ?_ _
    intro e
    have e' : g = lb := by simpa [Value.ownBlock] using e
    rcases a1 with h | h
    · exact HN.out (by rw [h, e'])
    · omega
  · refine (((Fr.refl w _).alloc _).alloc _).grown g1 ?_ |>.setCell _ _ (.inl rfl)
    intro k hk
    exact .inr hk
end Go.Proofs.Ybulkazzm
