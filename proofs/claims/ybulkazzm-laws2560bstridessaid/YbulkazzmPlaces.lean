/-
  The walk of LawS2560BPlaces.
-/
import Derived.Test.YbulkazzmPuts
namespace Go.Proofs.Ybulkazzm
open Go.ChangeShapes Go.WideShapes Go.ChangeAt Go.RowKit Go.Deep

/-- What a walk is told of a slice of steps that came in. -/
def IsSteps (w : World) (a : Option Addr) (len : Nat) : Prop :=
  len = 0 ∨ ∃ b off, ∃ (K : Nat → Int) (N : Nat → Nat), a = some ⟨b, off, none⟩ ∧ b < w.heap.size ∧
    ∀ i, i < len → w.cell? ⟨b, off + i * 2, none⟩ = some (.int .i64 (K i)) ∧ w.cell? ⟨b, off + i * 2 + 1, none⟩ = some (.int .u8 (N i : Nat)) ∧ N i ≤ 255

theorem places_long (z0 : Int) (home first : Int) (a : Option Addr) (len cap : Nat) (w : World) (hlen : ¬ len ≤ 1024) (hl : len ≤ 9223372036854775807) :
    Calls Yba.prog 3 #[.int .u8 z0, .int .i64 home, .int .i64 first, .slice a len cap] w fun e w' => e = .returned (.bool true) ∧ Below w.heap.size w w' := by
  go_enter Yba.func3, Yba.ntmps3
  go_wp2
  go_ret
  exact ⟨rfl, Below.refl _ _⟩

/-- What holds at each round's head: the log variable lies in the first new block, the row of strides and the struct in the next two; the log owns k groups. -/
def PInv (w0 wr : World) (nn : Nat) (home first : Int) (k : Nat) : Prop :=
  ∃ ts v xs, Sd wr (w0.heap.size + 1 + 1) (w0.heap.size + 1) nn home first (.func (.func 8) #[] #[.pointer (some ⟨w0.heap.size, 0, none⟩)]) ts ∧ (∀ j, Fit (ts.getD j (0, 0, 0))) ∧
    wr.heap[w0.heap.size]? = some (.cells #[v] 23 (0, 0)) ∧ wr.ownsRow w0.heap.size 27 4 v k xs ∧ Below w0.heap.size w0 wr

theorem PInv.drewN {w0 wr : World} {nn : Nat} {home first : Int} {k : Nat} (h : PInv w0 wr nn home first k) (q : Nat) : PInv w0 (wr.drewN q) nn home first k := by
  obtain ⟨ts, v, xs, hs, hf, hb, ho, hB⟩ := h
  exact ⟨ts, v, xs, hs.drewN q, hf, hb, ho, hB.trans ⟨rfl, rfl, rfl, Nat.le_refl _, fun _ _ => rfl⟩⟩

theorem fit_zero : Fit (0, 0, 0) := by unfold Fit; decide
theorem fit_replicate (n j : Nat) : Fit ((List.replicate n ((0, 0, 0) : Tri)).getD j (0, 0, 0)) := by
  have : (List.replicate n ((0, 0, 0) : Tri)).getD j (0, 0, 0) = (0, 0, 0) := by
    simp only [List.getD_eq_getElem?_getD, List.getElem?_replicate]
    split <;> rfl
  rw [this]; exact fit_zero
theorem fit_set {ts : List Tri} (h : ∀ j, Fit (ts.getD j (0, 0, 0))) (i : Nat) (p : Tri) (hp : Fit p) (j : Nat) : Fit ((ts.set i p).getD j (0, 0, 0)) := by
  rw [List.getD_eq_getElem?_getD, List.getElem?_set]
  split
  · split
    · exact hp
    · exact fit_zero
  · rw [← List.getD_eq_getElem?_getD]; exact h j

theorem last_cells {w : World} {base g n cap : Nat} {xs : List Value} {a b c d : Value} (h : w.ownsRow base 27 4 (.slice (some ⟨g, 0, none⟩) (n + 1) cap) (n + 1) (xs ++ [a, b, c, d])) :
    w.cell? ⟨g, n * 4, none⟩ = some a ∧ w.cell? ⟨g, n * 4 + 1, none⟩ = some b ∧ w.cell? ⟨g, n * 4 + 2, none⟩ = some c ∧ w.cell? ⟨g, n * 4 + 3, none⟩ = some d := by
  have hl : xs.length = n * 4 := by have := h.1; simp at this; omega
  refine ⟨?_, ?_, ?_, ?_⟩
  · rw [h.cellAt (n * 4) (by omega), ← hl, List.getElem?_append_right (Nat.le_refl _)]; simp
  · rw [h.cellAt (n * 4 + 1) (by omega), ← hl, List.getElem?_append_right (by omega)]; simp
  · rw [h.cellAt (n * 4 + 2) (by omega), ← hl, List.getElem?_append_right (by omega)]; simp
  · rw [h.cellAt (n * 4 + 3) (by omega), ← hl, List.getElem?_append_right (by omega)]; simp

theorem ownBlock_lt {w : World} {base n : Nat} {v : Value} {xs : List Value} (h : w.ownsRow base 27 4 v n xs) {k : Nat} (hk : v.ownBlock = some k) : base ≤ k ∧ k < w.heap.size := by
  rcases h.2 with ⟨h1, _⟩ | ⟨g, cap, cur, h1, hb, hh, _⟩
  · rw [h1] at hk; cases hk
  · rw [h1] at hk
    have e : g = k := by simpa [Value.ownBlock] using hk
    subst e
    exact ⟨hb, lt_of_block hh⟩

/-- put in a round of the law, behind the round's own block o. -/
theorem put_P {w0 wr : World} {nn k n : Nat} {home first K : Int} (o : Obj) (h : PInv w0 wr nn home first k) (hn : nn ≤ 16) (h1 : 1 ≤ n) (h2 : n ≤ nn) (hk : k ≤ 1024) :
    Calls Yba.prog 9 #[.pointer (some ⟨w0.heap.size + 1 + 1, 0, none⟩), .int .i64 K, .int .i64 n] (wr.alloc o) fun e w' => e = .returned (.tuple #[]) ∧ PInv w0 w' nn home first (k + 1) ∧ w'.heap[wr.heap.size]? = some o ∧
      ∃ g cap, w'.cell? ⟨w0.heap.size, 0, none⟩ = some (.slice (some ⟨g, 0, none⟩) (k + 1) cap) ∧ w'.cell? ⟨g, k * 4, none⟩ = some (.int .i64 n) ∧ w'.cell? ⟨g, k * 4 + 1, none⟩ = some (.int .i64 (wrap64 (first + K))) ∧
        w'.cell? ⟨g, k * 4 + 2, none⟩ = some (.int .i64 0) ∧ w'.cell? ⟨g, k * 4 + 3, none⟩ = some (.int .i64 1) := by
  obtain ⟨ts, v, xs, hs, hf, hb, ho, hB⟩ := h
  have hlt := hs.lt
  have hbl := lt_of_block hb
  refine (put_log (hs.alloc o) hn h1 h2 hf ((Below.heap_alloc wr o _ hbl).trans hb) (ho.alloc o) (by simp; omega) (by omega)).mono ?_
  rintro e w' ⟨rfl, hs', g, cap, hb', ho', hf'⟩
  refine ⟨rfl, ⟨_, _, _, hs', fit_set hf _ _ (upd_fit (hf _)), hb', ho', hf'.below (hB.alloc hB.size o) (by simp; omega) ?_⟩, ?_, g, cap, cell_of_one hb', last_cells ho'⟩
  · rintro b (rfl | rfl | hb)
    · omega
    · omega
    · exact (ownBlock_lt ho hb).1
  · rw [hf'.block wr.heap.size (by simp) ?_]
    · exact heap_alloc_new wr o
    · rintro (h | h | h)
      · omega
      · omega
      · have := (ownBlock_lt ho h).2; omega

set_option maxRecDepth 10000 in
set_option maxHeartbeats 1000000 in
theorem places_short (z0 : Nat) (h0 : z0 ≤ 255) (home first : Int) (a : Option Addr) (len cap : Nat) (w : World) (hlen : len ≤ 1024) (hs : IsSteps w a len) :
    Calls Yba.prog 3 #[.int .u8 z0, .int .i64 home, .int .i64 first, .slice a len cap] w fun e w' => e = .returned (.bool true) ∧ Below w.heap.size w w' := by
  have HS : Hid (IsSteps w a len) := hs
  clear hs
  go_enter Yba.func3, Yba.ntmps3
  go_upto_region 3 with fail
  go_cut [9] from 15 to 21 (fun s9 wx => ∃ nn : Nat, s9 = .int .i64 nn ∧ 1 ≤ nn ∧ nn ≤ 16 ∧ wx = w)
  case first =>
    go_wp2
    go_meet
    case rel => exact ⟨z0 % 16 + 1, by go_num, by omega, by omega, rfl⟩
  case rest =>
    obtain ⟨nn, rfl, hn1, hn, rfl⟩ := hcut
    go_wp2_with (go_at_call 7; refine (new_any nn home first 8 #[.pointer (some ⟨wc.heap.size, 0, none⟩)] _ hn).mono ?_; rintro e w1 ⟨rfl, hs1, hb1, hz1⟩)
    have HP : Hid (PInv wc w1 nn home first 0) := by
      simp only [World.size_alloc] at hs1 hb1
      have hlb : w1.heap[wc.heap.size]? = some (.cells #[.slice none 0 0] 23 (0, 0)) := (hb1.block _ (by omega)).trans (heap_alloc_new wc _)
      exact ⟨_, _, [], hs1, fit_replicate _, hlb, World.ownsRow_nil _ _ _ _, ((Below.refl _ wc).alloc (Nat.le_refl _) _).trans (hb1.mono (by omega))⟩
    clear hs1 hb1 hz1
    go_loopw [29] (fun i wr => ∃ k : Nat, k ≤ len ∧ i = .int .i64 k ∧ PInv wc wr nn home first k) (fun i _ => len - (intOf i).toNat)
    case atStart => exact ⟨0, Nat.zero_le _, rfl, HP.out⟩
    case round =>
      clear HP
      obtain ⟨k, hk, rfl, hP⟩ := hrel
      have HP : Hid (PInv wc wr nn home first k) := hP
      by_cases hlt : k < len
      · obtain ⟨b, off, K, N, rfl, hb, hc⟩ : ∃ b off, ∃ (K : Nat → Int) (N : Nat → Nat), a = some ⟨b, off, none⟩ ∧ b < wc.heap.size ∧ ∀ i, i < len → wc.cell? ⟨b, off + i * 2, none⟩ = some (.int .i64 (K i)) ∧ wc.cell? ⟨b, off + i * 2 + 1, none⟩ = some (.int .u8 (N i : Nat)) ∧ N i ≤ 255 := by
          rcases HS.out with h | h
          · omega
          · exact h
        obtain ⟨_, _, _, _, _, _, _, hBr⟩ := hP
        obtain ⟨q1, q2, q3⟩ := hc k hlt
        rw [← hBr.cell (p := ⟨b, off + k * 2, none⟩) hb] at q1
        rw [← hBr.cell (p := ⟨b, off + k * 2 + 1, none⟩) hb] at q2
        have hbr : b < wr.heap.size := Nat.lt_of_lt_of_le hb hBr.size
        obtain ⟨kk, hkk⟩ : ∃ kk, K k = kk := ⟨_, rfl⟩
        obtain ⟨z, hz⟩ : ∃ z, N k = z := ⟨_, rfl⟩
        rw [hkk] at q1
        rw [hz] at q2 q3
        clear hkk hz hc hBr HS
        have hm := Nat.mod_lt z (show 0 < nn by omega)
        have EZ : Hid (((z : Int) % (nn : Int)) + 1 = ((z % nn + 1 : Nat) : Int)) := by show _ = _; omega
        go_wp2_with (go_at_call 9; rw [EZ.out]; refine (put_P _ HP.out hn (by omega) (by omega) (by omega)).mono ?_; rintro e w2 ⟨rfl, hP2, hst, g, cap2, r0, r1, r2, r3, r4⟩)
        rw [← EZ.out] at r1
        have s0 : w2.cell? ⟨wr.heap.size, 0, none⟩ = some (.int .i64 kk) := by simp [World.cell?, hst]
        have hki : (k : Int) < (k : Int) + 1 := by omega
        have HP2 : Hid (PInv wc w2 nn home first (k + 1)) := hP2
        clear hP2 hst
        go_quiet (fail)
        go_wp2
        go_roundw
        case rel => exact ⟨k + 1, by omega, by go_num, HP2.out.drewN _⟩
        case measure => simp [intOf]; omega
      · obtain rfl : k = len := by omega
        obtain ⟨_, _, _, hs, _, _, _, hBr⟩ := hP
        have c0 := hs.c0; have c1 := hs.c1; have c2 := hs.c2
        have t0 : ((nn : Int) == (nn : Int)) = true := by simp
        have t1 : (home == home) = true := by simp
        have t2 : (first == first) = true := by simp
        have HB : Hid (Below wc.heap.size wc wr) := hBr
        clear hs hBr
        go_wp2
        go_ret
        exact ⟨rfl, HB.out⟩
end Go.Proofs.Ybulkazzm
