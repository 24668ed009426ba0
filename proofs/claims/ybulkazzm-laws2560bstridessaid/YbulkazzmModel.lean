/-
  The walk of LawS2560BStrides.
-/
import Derived.Test.YbulkazzmPlaces
namespace Go.Proofs.Ybulkazzm
open Go.ChangeShapes Go.WideShapes Go.ChangeAt Go.RowKit Go.Deep

theorem strides_long (z0 : Int) (home first : Int) (a : Option Addr) (len cap : Nat) (w : World) (hlen : ¬ len ≤ 1024) (hl : len ≤ 9223372036854775807) :
    Calls Yba.prog 4 #[.int .u8 z0, .int .i64 home, .int .i64 first, .slice a len cap] w fun e w' => e = .returned (.bool true) ∧ Below w.heap.size w w' := by
  go_enter Yba.func4, Yba.ntmps4
  go_wp2
  go_ret
  exact ⟨rfl, Below.refl _ _⟩

/-- What holds at each round's head: the counter, the row of strides, the struct, the model's row lie in the first four new blocks; strides and model are one list. -/
def MInv (w0 wr : World) (nn : Nat) (home first : Int) (k : Nat) : Prop :=
  ∃ ts, Sd wr (w0.heap.size + 1 + 1) (w0.heap.size + 1) nn home first (.func (.func 10) #[] #[.pointer (some ⟨w0.heap.size, 0, none⟩)]) ts ∧ (∀ j, Fit (ts.getD j (0, 0, 0))) ∧
    wr.heap[w0.heap.size]? = some (.cells #[.int .i64 k] 3 (0, 0)) ∧ TRow wr (w0.heap.size + 1 + 1 + 1) ts ∧ Below w0.heap.size w0 wr
theorem MInv.drewN {w0 wr : World} {nn : Nat} {home first : Int} {k : Nat} (h : MInv w0 wr nn home first k) (q : Nat) : MInv w0 (wr.drewN q) nn home first k := by
  obtain ⟨ts, hs, hf, hb, ho, hB⟩ := h
  exact ⟨ts, hs.drewN q, hf, hb, ho, hB.trans ⟨rfl, rfl, rfl, Nat.le_refl _, fun _ _ => rfl⟩⟩

/-- put, in a round of the law: the model's row stays, the strides take the task in, the counter goes on. -/
theorem put_M {w0 wx : World} {nn k n : Nat} {home first K : Int} {ts ts' : List Tri} (hs : Sd wx (w0.heap.size + 1 + 1) (w0.heap.size + 1) nn home first (.func (.func 10) #[] #[.pointer (some ⟨w0.heap.size, 0, none⟩)]) ts)
    (hf : ∀ j, Fit (ts.getD j (0, 0, 0))) (hb : wx.heap[w0.heap.size]? = some (.cells #[.int .i64 k] 3 (0, 0))) (hm : TRow wx (w0.heap.size + 1 + 1 + 1) ts') (hB : Below w0.heap.size w0 wx)
    (he : ts' = ts.set (kd home K nn n) (upd (wrap64 (first + K)) (ts.getD (kd home K nn n) (0, 0, 0)))) (hn : nn ≤ 16) (h1 : 1 ≤ n) (h2 : n ≤ nn) (hk : k ≤ 1024) :
    Calls Yba.prog 9 #[.pointer (some ⟨w0.heap.size + 1 + 1, 0, none⟩), .int .i64 K, .int .i64 n] wx fun e w' => e = .returned (.tuple #[]) ∧ MInv w0 w' nn home first (k + 1) := by
  have hl := hs.lt
  have hml := lt_of_block (show wx.heap[_]? = _ from hm)
  refine (put_count hs hn h1 h2 hf hb (by omega) (by omega)).mono ?_
  rintro e w' ⟨rfl, hs', hb', hf'⟩
  refine ⟨rfl, ts', by rw [he]; exact hs', by rw [he]; exact fit_set hf _ _ (upd_fit (hf _)), hb', hm.of_block (hf'.block _ hml (by rintro (h | h) <;> omega)), hf'.below hB (by omega) (by rintro b (rfl | rfl) <;> omega)⟩

/-- What the model's statements leave: the model's row alone has turned. -/
structure Mid (W wx : World) (m : Nat) (ts' : List Tri) : Prop where
  row : TRow wx m ts'
  fr : Fr W wx (· = m)

/-- A stride stored into the model's row, behind the round's two blocks. -/
theorem mid_store {wr : World} {st ab : Obj} {m j : Nat} {ts : List Tri} (hr : TRow wr m ts) (hj : j < ts.length) (a b c : Int) :
    Mid ((wr.alloc st).alloc ab) (((((wr.setCell ⟨m, j * 3, none⟩ (.int .i32 a)).setCell ⟨m, j * 3 + 1, none⟩ (.int .i32 b)).setCell ⟨m, j * 3 + 2, none⟩ (.int .i32 c)).alloc st).alloc ab) m (ts.set j (a, b, c)) := by
  have hl := lt_of_block (show wr.heap[m]? = _ from hr)
  have e : ((((wr.setCell ⟨m, j * 3, none⟩ (.int .i32 a)).setCell ⟨m, j * 3 + 1, none⟩ (.int .i32 b)).setCell ⟨m, j * 3 + 2, none⟩ (.int .i32 c)).alloc st).alloc ab
      = ((((wr.alloc st).alloc ab).setCell ⟨m, j * 3, none⟩ (.int .i32 a)).setCell ⟨m, j * 3 + 1, none⟩ (.int .i32 b)).setCell ⟨m, j * 3 + 2, none⟩ (.int .i32 c) := by
    rw [World.setCell_alloc_past _ _ _ _ (show m < (wr.alloc st).heap.size by simp; omega), World.setCell_alloc_past _ _ _ _ hl, World.setCell_alloc_past _ _ _ _ (show m < ((wr.setCell _ _).alloc st).heap.size by simp [World.setCell]; omega), World.setCell_alloc_past _ _ _ _ (show m < (wr.setCell _ _).heap.size by simp [World.setCell]; omega),
      World.setCell_alloc_past _ _ _ _ (show m < (((wr.setCell _ _).setCell _ _).alloc st).heap.size by simp [World.setCell]; omega), World.setCell_alloc_past _ _ _ _ (show m < ((wr.setCell _ _).setCell _ _).heap.size by simp [World.setCell]; omega)]
  rw [e]
  have h2 : TRow ((wr.alloc st).alloc ab) m ts := hr.of_block ((Below.heap_alloc _ _ _ (by simp; omega)).trans (Below.heap_alloc _ _ _ hl))
  exact ⟨h2.set012 j hj a b c, (((Fr.refl _ (· = m)).setCell ⟨m, j * 3, none⟩ _ rfl).setCell ⟨m, j * 3 + 1, none⟩ _ rfl).setCell ⟨m, j * 3 + 2, none⟩ _ rfl⟩
theorem mid_same {wr : World} {st ab : Obj} {m : Nat} {ts : List Tri} (hr : TRow wr m ts) : Mid ((wr.alloc st).alloc ab) ((wr.alloc st).alloc ab) m ts := by
  have hl := lt_of_block (show wr.heap[m]? = _ from hr)
  exact ⟨hr.of_block ((Below.heap_alloc _ _ _ (by simp; omega)).trans (Below.heap_alloc _ _ _ hl)), Fr.refl _ _⟩

theorem upd_one {g f st : Int} : upd g (f, st, 1) = (f, wrap32 (wrap64 (g - f)), 2) := by simp [upd]
theorem upd_yes {g f st c : Int} (hc : 1 < c) (hg : g = wrap64 (f + wrap64 (c * st))) : upd g (f, st, c) = (f, st, wrap32 (c + 1)) := by
  unfold upd
  dsimp only
  rw [if_pos (by omega), if_neg (by omega), if_pos hg]
theorem upd_no {g f st c : Int} (hc : 1 < c) (hg : ¬ g = wrap64 (f + wrap64 (c * st))) : upd g (f, st, c) = (wrap32 g, 0, 1) := by
  unfold upd
  dsimp only
  rw [if_pos (by omega), if_neg (by omega), if_neg hg]
theorem upd_new {g f st c : Int} (hc : ¬ 0 < c) : upd g (f, st, c) = (wrap32 g, 0, 1) := by
  unfold upd
  dsimp only
  rw [if_neg hc]

set_option maxRecDepth 10000 in
set_option maxHeartbeats 2000000 in
theorem strides_short (z0 : Nat) (h0 : z0 ≤ 255) (home first : Int) (a : Option Addr) (len cap : Nat) (w : World) (hlen : len ≤ 1024) (hs : IsSteps w a len) :
    Calls Yba.prog 4 #[.int .u8 z0, .int .i64 home, .int .i64 first, .slice a len cap] w fun e w' => e = .returned (.bool true) ∧ Below w.heap.size w w' := by
  have HS : Hid (IsSteps w a len) := hs
  clear hs
  go_enter Yba.func4, Yba.ntmps4
  go_upto_region 3 with fail
  go_cut [9] from 21 to 27 (fun s9 wx => ∃ nn : Nat, s9 = .int .i64 nn ∧ 1 ≤ nn ∧ nn ≤ 16 ∧ w = wx)
  case first =>
    go_wp2
    go_meet
    case rel => exact ⟨z0 % 16 + 1, by go_num, by omega, by omega, rfl⟩
  case rest =>
    obtain ⟨nn, rfl, hn1, hn, rfl⟩ := hcut
    have hmk : ∀ w : World, (Instr.makeSlice 32 (.int .i64 (2 * (nn : Int))) (.int .i64 (2 * (nn : Int)))).run Yba.prog w = .ok (.slice (some ⟨w.heap.size, 0, none⟩) (2 * nn) (2 * nn)) (w.alloc (.cells (flat (List.replicate (2 * nn) (0, 0, 0))).toArray 37)) := fun w => by
      have := made_strides (2 * nn) (by omega) w
      rwa [show ((2 * nn : Nat) : Int) = 2 * (nn : Int) by omega] at this
    obtain ⟨M, hM⟩ : ∃ M, (flat (List.replicate (2 * nn) (0, 0, 0))).toArray = M := ⟨_, rfl⟩
    rw [hM] at hmk
    have HM : Hid ((flat (List.replicate (2 * nn) (0, 0, 0))).toArray = M) := hM
    clear hM
    go_wp2_with (go_at_call 7; refine (new_any nn home first 10 #[.pointer (some ⟨w.heap.size, 0, none⟩)] _ hn).mono ?_; rintro e w1 ⟨rfl, hs1, hb1, hz1⟩; have H1 : Hid (_ ∧ _ ∧ _) := ⟨hs1, hb1, hz1⟩; clear hs1 hb1 hz1)
    have hsz : w1.heap.size = w.heap.size + 1 + 1 + 1 := by have := H1.out.2.2; simp at this; omega
    rw [hsz]
    have HP : Hid (MInv w (w1.alloc (.cells M 37)) nn home first 0) := by
      obtain ⟨hs1, hb1, hz1⟩ := H1.out
      simp only [World.size_alloc] at hs1 hb1
      have hlb : w1.heap[w.heap.size]? = some (.cells #[.int .i64 0] 3 (0, 0)) := (hb1.block _ (by omega)).trans (heap_alloc_new w _)
      have hr : TRow (w1.alloc (.cells M 37)) (w.heap.size + 1 + 1 + 1) (List.replicate (2 * nn) (0, 0, 0)) := by
        unfold TRow
        rw [HM.out, ← hsz]
        exact heap_alloc_new w1 _
      exact ⟨_, hs1.alloc _, fit_replicate _, (Below.heap_alloc _ _ _ (lt_of_block hlb)).trans hlb, hr, (((Below.refl _ w).alloc (Nat.le_refl _) _).trans (hb1.mono (by omega))).alloc (by omega) _⟩
    clear hsz HM hmk H1
    go_loopw [38] (fun i wr => ∃ k : Nat, k ≤ len ∧ i = .int .i64 k ∧ MInv w wr nn home first k) (fun i _ => len - (intOf i).toNat)
    case atStart => exact ⟨0, Nat.zero_le _, rfl, HP.out⟩
    case round =>
      clear HP
      obtain ⟨k, hk, rfl, hP⟩ := hrel
      obtain ⟨ts, hsd, hfit, hcb, hmr, hBr⟩ := hP
      by_cases hlt : k < len
      · obtain ⟨b, off, K, N, rfl, hb, hc⟩ : ∃ b off, ∃ (K : Nat → Int) (N : Nat → Nat), a = some ⟨b, off, none⟩ ∧ b < w.heap.size ∧ ∀ i, i < len → w.cell? ⟨b, off + i * 2, none⟩ = some (.int .i64 (K i)) ∧ w.cell? ⟨b, off + i * 2 + 1, none⟩ = some (.int .u8 (N i : Nat)) ∧ N i ≤ 255 := by
          rcases HS.out with h | h
          · omega
          · exact h
        obtain ⟨q1, q2, q3⟩ := hc k hlt
        rw [← hBr.cell (p := ⟨b, off + k * 2, none⟩) hb] at q1
        rw [← hBr.cell (p := ⟨b, off + k * 2 + 1, none⟩) hb] at q2
        have hbr : b < wr.heap.size := Nat.lt_of_lt_of_le hb hBr.size
        obtain ⟨kk, hkk⟩ : ∃ kk, K k = kk := ⟨_, rfl⟩
        obtain ⟨z, hz⟩ : ∃ z, N k = z := ⟨_, rfl⟩
        rw [hkk] at q1
        rw [hz] at q2 q3
        clear hkk hz hc HS
        have hm := Nat.mod_lt z (show 0 < nn by omega)
        have HI : Hid (_ ∧ _ ∧ _ ∧ _ ∧ _) := ⟨hsd, hfit, hcb, hmr, hBr⟩
        clear hsd hfit hcb hmr hBr
        go_upto_if 64 with fail
        go_cut [15, 16, 17] from 39 to 66 (fun s15 s16 s17 wx => s15 = .int .i64 ((z % nn + 1 : Nat) : Int) ∧ s16 = .int .i64 (wrap64 (first + kk)) ∧ s17 = .int .i64 (kd home kk nn (z % nn + 1) : Nat) ∧ wx = wr.alloc (.cells #[.int .i64 kk, .int .u8 z] 30))
        case first =>
          by_cases ht : (wrap64 (home + kk)).tmod nn = (z : Int) % (nn : Int)
          · have tt : ((wrap64 (home + kk)).tmod nn != (z : Int) % (nn : Int)) = false := by simpa using ht
            have R : Hid ((kd home kk nn (z % nn + 1) : Nat) = (2 * (z % nn) : Nat)) := by
              unfold Hid kd
              rw [if_pos (by rw [ht]; omega)]
              omega
            clear ht
            go_wp2
            go_meet
            case rel => exact ⟨by go_num, rfl, by rw [R.out]; go_num, rfl⟩
          · have tt : ((wrap64 (home + kk)).tmod nn != (z : Int) % (nn : Int)) = true := by simpa using ht
            have R : Hid ((kd home kk nn (z % nn + 1) : Nat) = (2 * (z % nn) + 1 : Nat)) := by
              unfold Hid kd
              rw [if_neg (fun e => ht (by rw [e]; omega))]
              omega
            clear ht
            go_wp2
            go_meet
            case rel => exact ⟨by go_num, rfl, by rw [R.out]; go_num, rfl⟩
        case rest =>
          obtain ⟨rfl, rfl, rfl, rfl⟩ := hcut
          have hn2 : 1 ≤ z % nn + 1 ∧ z % nn + 1 ≤ nn := by omega
          obtain ⟨n, hnn⟩ : ∃ n, z % nn + 1 = n := ⟨_, rfl⟩
          rw [hnn] at hn2
          rw [hnn]
          obtain ⟨g, hg⟩ : ∃ g, wrap64 (first + kk) = g := ⟨_, rfl⟩
          rw [hg]
          have hjl := kd_lt (home := home) (k := kk) hn2.1 hn2.2
          obtain ⟨j, hj⟩ : ∃ j, kd home kk nn n = j := ⟨_, rfl⟩
          rw [hj] at hjl
          rw [hj]
          have HE : Hid (wrap64 (first + kk) = g ∧ kd home kk nn n = j) := ⟨hg, hj⟩
          clear hnn hg hj hm q1 q2 q3
          have hjt : j < ts.length := by rw [HI.out.1.len]; exact hjl
          have hml := lt_of_block (show wr.heap[_]? = _ from HI.out.2.2.2.1)
          have hml1 : w.heap.size + 1 + 1 + 1 < wr.heap.size + 1 := by omega
          have hrow : TRow wr (w.heap.size + 1 + 1 + 1) ts := HI.out.2.2.2.1
          have d0 := hrow.c0 j hjt
          have d1 := hrow.c1 j hjt
          have d2 := hrow.c2 j hjt
          obtain ⟨bf, bs, bc⟩ := HI.out.2.1 j
          obtain ⟨p, hp⟩ : ∃ p, ts.getD j (0, 0, 0) = p := ⟨_, rfl⟩
          rw [hp] at d0 d1 d2 bf bs bc
          have HPP : Hid (ts.getD j (0, 0, 0) = p ∧ j < ts.length) := ⟨hp, hjt⟩
          obtain ⟨f, st, c⟩ := p
          dsimp only at d0 d1 d2 bf bs bc
          clear hp hjt
          have k1 : wr.frozen? ⟨w.heap.size + 1 + 1 + 1, j * 3, none⟩ = false := hrow.free _
          have k2 : wr.frozen? ⟨w.heap.size + 1 + 1 + 1, j * 3 + 1, none⟩ = false := hrow.free _
          have k3 : wr.frozen? ⟨w.heap.size + 1 + 1 + 1, j * 3 + 2, none⟩ = false := hrow.free _
          clear hrow
          go_upto_if 73 with fail
          go_cut [19] from 67 to 112 (fun s19 wx => ∃ q, s19 = .bool q ∧ (q = true → Mid ((wr.alloc (.cells #[.int .i64 kk, .int .u8 z] 30)).alloc (.cells #[.int .i32 f, .int .i32 st, .int .i32 c] 37)) wx (w.heap.size + 1 + 1 + 1) (ts.set j (upd g (f, st, c)))) ∧
            (q = false → upd g (f, st, c) = (wrap32 g, 0, 1) ∧ wx = (wr.alloc (.cells #[.int .i64 kk, .int .u8 z] 30)).alloc (.cells #[.int .i32 f, .int .i32 st, .int .i32 c] 37)))
          case first =>
            by_cases hc0 : 0 < c
            · by_cases hc1 : c = 1
              · subst hc1
                go_wp2
                go_meet
                case rel => exact ⟨true, rfl, fun _ => by rw [upd_one]; exact mid_store HI.out.2.2.2.1 HPP.out.2 _ _ _, fun h => by cases h⟩
              · have t1 : (c == 1) = false := by simpa using hc1
                by_cases hgg : g = wrap64 (f + wrap64 (c * st))
                · have t2 : (g == wrap64 (f + wrap64 (c * st))) = true := by simpa using hgg
                  have HU : Hid (upd g (f, st, c) = (f, st, wrap32 (c + 1))) := upd_yes (by omega) hgg
                  clear hgg
                  go_wp2
                  go_meet
                  case rel => exact ⟨true, rfl, fun _ => by rw [HU.out]; exact mid_store HI.out.2.2.2.1 HPP.out.2 _ _ _, fun h => by cases h⟩
                · have t2 : (g == wrap64 (f + wrap64 (c * st))) = false := by simpa using hgg
                  have HU : Hid (upd g (f, st, c) = (wrap32 g, 0, 1)) := upd_no (by omega) hgg
                  clear hgg
                  go_wp2
                  go_meet
                  case rel => exact ⟨false, rfl, (fun h => by cases h), fun _ => ⟨HU.out, rfl⟩⟩
            · have HU : Hid (upd g (f, st, c) = (wrap32 g, 0, 1)) := upd_new hc0
              go_wp2
              go_meet
              case rel => exact ⟨false, rfl, (fun h => by cases h), fun _ => ⟨HU.out, rfl⟩⟩
          case rest =>
            obtain ⟨q, rfl, hq1, hq2⟩ := hcut
            have HQ : Hid _ := And.intro hq1 hq2
            clear hq1 hq2
            go_upto_if 114 with fail
            go_cut [] from 113 to 120 (fun wx => Mid ((wr.alloc (.cells #[.int .i64 kk, .int .u8 z] 30)).alloc (.cells #[.int .i32 f, .int .i32 st, .int .i32 c] 37)) wx (w.heap.size + 1 + 1 + 1) (ts.set j (upd g (f, st, c))))
            case first =>
              cases q with
              | true =>
                go_wp2
                go_meet
                case rel => exact HQ.out.1 (by first | rfl | trivial)
              | false =>
                obtain ⟨hU, rfl⟩ := HQ.out.2 (by first | rfl | trivial)
                have HU : Hid (upd g (f, st, c) = (wrap32 g, 0, 1)) := hU
                clear hU
                go_wp2
                go_meet
                case rel => rw [HU.out]; exact mid_store HI.out.2.2.2.1 HPP.out.2 _ _ _
            case rest =>
              obtain ⟨hsd, hfit, hcb, hmr, hBr⟩ := HI.out
              have hsl := hsd.lt
              have hs5 := ((hsd.alloc (.cells #[.int .i64 kk, .int .u8 z] 30)).alloc (.cells #[.int .i32 f, .int .i32 st, .int .i32 c] 37)).frame hcut.fr (by omega) (by omega)
              have hcl := lt_of_block hcb
              have hc5 : wc.heap[w.heap.size]? = some (.cells #[.int .i64 k] 3 (0, 0)) := (hcut.fr.block _ (by simp; omega) (by omega)).trans ((Below.heap_alloc _ _ _ (by simp; omega)).trans ((Below.heap_alloc _ _ _ hcl).trans hcb))
              have ho5 : wc.heap[wr.heap.size]? = some (.cells #[.int .i64 kk, .int .u8 z] 30 (0, 0)) := (hcut.fr.block _ (by simp; omega) (by omega)).trans ((Below.heap_alloc _ _ _ (by simp)).trans (heap_alloc_new _ _))
              have hB5 : Below w.heap.size w wc := hcut.fr.below ((hBr.alloc hBr.size _).alloc (by have := hBr.size; simp; omega) _) (by have := hBr.size; simp; omega) (by rintro b rfl; omega)
              have s0 : wc.cell? ⟨wr.heap.size, 0, none⟩ = some (.int .i64 kk) := by simp [World.cell?, ho5]
              have H5 : Hid (_ ∧ _ ∧ _ ∧ _ ∧ _) := ⟨hs5, hc5, hcut.row, hB5, hfit⟩
              clear hsd hfit hcb hmr hBr hs5 hc5 ho5 hB5 hcut HI d0 d1 d2 bf bs bc k1 k2 k3 HQ
              go_wp2_with (go_at_call 9; refine (put_M H5.out.1 H5.out.2.2.2.2 H5.out.2.1 H5.out.2.2.1 H5.out.2.2.2.1 (by rw [HE.out.1, HE.out.2, HPP.out.1]) hn hn2.1 hn2.2 (by omega)).mono ?_; rintro e w3 ⟨rfl, hMI⟩; obtain ⟨ts3, hs3, hf3, hc3, hm3, hB3⟩ := hMI; have e0 := cell_of_one hc3; have e4 := hs3.c4; have H3 : Hid (_ ∧ _ ∧ _ ∧ _ ∧ _) := ⟨hs3, hf3, hc3, hm3, hB3⟩; clear hs3 hf3 hc3 hm3 hB3)
              go_loopw [20] (fun i wy => ∃ y : Nat, y ≤ 2 * nn ∧ i = .int .i64 y ∧ ∃ q : Nat, wy = w3.drewN q) (fun i _ => 2 * nn - (intOf i).toNat)
              case atStart => exact ⟨0, Nat.zero_le _, rfl, 0, rfl⟩
              case round =>
                obtain ⟨y, hy, rfl, q5, rfl⟩ := hrel
                by_cases hyl : y < 2 * nn
                · have hyt : y < ts3.length := by rw [H3.out.1.len]; exact hyl
                  have a0 := H3.out.1.bt.c0 y hyt
                  have a1 := H3.out.1.bt.c1 y hyt
                  have a2 := H3.out.1.bt.c2 y hyt
                  have b0 := H3.out.2.2.2.1.c0 y hyt
                  have b1 := H3.out.2.2.2.1.c1 y hyt
                  have b2 := H3.out.2.2.2.1.c2 y hyt
                  obtain ⟨p3, hp3⟩ : ∃ p3, ts3.getD y (0, 0, 0) = p3 := ⟨_, rfl⟩
                  rw [hp3] at a0 a1 a2 b0 b1 b2
                  obtain ⟨x1, x2, x3⟩ := p3
                  dsimp only at a0 a1 a2 b0 b1 b2
                  clear hp3 hyt
                  go_wp2
                  go_quiet (fail)
                  go_wp2
                  go_roundw
                  case rel => exact ⟨y + 1, by omega, by go_num, _, rfl⟩
                  case measure => simp [intOf]; omega
                · have HN : Hid (MInv w w3 nn home first (k + 1)) := ⟨ts3, H3.out⟩
                  go_wp2
                  go_roundw
                  case rel => exact ⟨k + 1, by omega, by go_num, HN.out.drewN _⟩
                  case measure => simp [intOf]; omega
      · have HB : Hid (Below w.heap.size w wr) := hBr
        clear hsd hfit hcb hmr hBr
        go_wp2
        go_ret
        exact ⟨rfl, HB.out⟩
end Go.Proofs.Ybulkazzm
