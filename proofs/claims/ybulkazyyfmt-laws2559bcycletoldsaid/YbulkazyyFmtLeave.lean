/-
  The walk of zzs2559bleave: some of the others leave.
-/
import Derived.Test.YbulkazyyFmtNew
namespace Go.Proofs.YbulkazyyFmt
open Go.ChangeShapes Go.WideShapes Go.ChangeAt Go.RowKit Go.Deep

set_option maxHeartbeats 1000000 in
theorem leave_some {x g l d n own m b off len cap : Nat} {date place miss : Int} {G L : List Bool} {zs : List Nat} {w w0 : World} {B : Nat} (hx : Ex w x g l d n own date place false miss G L) (hm : Row w m L)
    (hmn : m ≠ x ∧ m ≠ g ∧ m ≠ l ∧ m ≠ d) (hB : Below B w0 w) (hBl : B ≤ l) (hBd : B ≤ d) (hBm : B ≤ m) (hn : n ≤ 1000) (h0 : 0 < n) (hlen : len ≤ 1024) (hb : b < B)
    (hc : ∀ i, i < len → w0.cell? ⟨b, off + i, none⟩ = some (.int .u8 (zs.getD i 0 : Nat))) (hz : ∀ i, zs.getD i 0 ≤ 255) :
    Calls Ybaf.prog 6 #[.pointer (some ⟨x, 0, none⟩), .slice (some ⟨m, 0, none⟩) n n, .int .i64 own, .slice (some ⟨b, off, none⟩) len cap] w fun e w' => e = .returned (.bool true) ∧ ∃ L', Ex w' x g l d n own date place false miss G L' ∧ Row w' m L' ∧ Below B w0 w' := by
  go_enter Ybaf.func6, Ybaf.ntmps6
  go_wp2
  go_loopw [17] (fun i wr => ∃ k : Nat, k ≤ len ∧ i = .int .i64 k ∧ ∃ L', Ex wr x g l d n own date place false miss G L' ∧ Row wr m L' ∧ Below B w0 wr) (fun i _ => len - (intOf i).toNat)
  case atStart => exact ⟨0, Nat.zero_le _, rfl, L, hx, hm, hB⟩
  case round =>
    clear hx hm hB
    obtain ⟨k, hk, rfl, L', hxr, hmr, hBr⟩ := hrel
    by_cases hlt : k < len
    · have hck := hc k hlt
      rw [← hBr.cell (p := ⟨b, off + k, none⟩) hb] at hck
      have hzk := hz k
      obtain ⟨z, hzz⟩ : ∃ z, zs.getD k 0 = z := ⟨_, rfl⟩
      rw [hzz] at hck hzk
      clear hzz hc hz
      have hzn : z % n < n := Nat.mod_lt _ h0
      have ez : ((z : Int) % (n : Int)) = ((z % n : Nat) : Int) := by simp
      have EZ : Hid (((z : Int) % (n : Int)) = ((z % n : Nat) : Int)) := ez
      clear ez
      have cm := hmr.cell (z % n) (by rw [hxr.ll]; exact hzn)
      obtain ⟨q, hq⟩ : ∃ q, L'.getD (z % n) false = q := ⟨_, rfl⟩
      rw [hq] at cm
      by_cases hso : z % n = own
      · have t1 : (((z : Int) % (n : Int)) == (own : Int)) = true := by rw [EZ.out, hso]; simp
        have H : Hid (_ ∧ _ ∧ _) := ⟨hxr, hmr, hBr⟩
        clear hxr hmr hBr hq hso
        go_wp2
        go_roundw
        case rel => exact ⟨k + 1, by omega, by go_num, L', H.out⟩
        case measure => simp [intOf]; omega
      · have t1 : (((z : Int) % (n : Int)) == (own : Int)) = false := by rw [EZ.out]; simp; omega
        cases q with
        | true =>
          have H : Hid (_ ∧ _ ∧ _) := ⟨hxr, hmr, hBr⟩
          clear hxr hmr hBr hq
          go_wp2
          go_roundw
          case rel => exact ⟨k + 1, by omega, by go_num, L', H.out⟩
          case measure => simp [intOf]; omega
        | false =>
          have H : Hid (_ ∧ _ ∧ _ ∧ _) := ⟨hxr, hmr, hBr, hq⟩
          clear hxr hmr hBr hq
          go_wp2_with (go_at_call 13; rw [EZ.out]; refine (left_any H.out.1 H.out.2.1 hmn H.out.2.2.1 hBl hBd hn hzn hso H.out.2.2.2).mono ?_; rintro e w1 ⟨rfl, hx1, hm1, hB1⟩; have cm1 := hm1.cell (z % n) (by rw [H.out.1.ll]; exact hzn); have fm1 := hm1.free (z % n))
          go_roundw
          case rel => exact ⟨k + 1, by omega, by go_num, _, hx1.other ⟨m, z % n, none⟩ _ (Ne.symm hmn.1) (Ne.symm hmn.2.1) (Ne.symm hmn.2.2.1) (Ne.symm hmn.2.2.2), hm1.set (z % n) true, hB1.setCell (p := ⟨m, z % n, none⟩) hBm _⟩
          case measure => simp [intOf]; omega
    · have H : Hid (_ ∧ _ ∧ _) := ⟨hxr, hmr, hBr⟩
      clear hxr hmr hBr
      go_wp2
      go_ret
      exact ⟨rfl, L', H.out⟩

set_option maxHeartbeats 400000 in
theorem leave_none {x n own m cap : Nat} (a : Option Addr) (w : World) :
    Calls Ybaf.prog 6 #[.pointer (some ⟨x, 0, none⟩), .slice (some ⟨m, 0, none⟩) n n, .int .i64 own, .slice a 0 cap] w fun e w' => e = .returned (.bool true) ∧ w' = w := by
  go_enter Ybaf.func6, Ybaf.ntmps6
  go_wp2
  refine wp_loop_rounds 1 ?_
  rw [rounds_succ]
  go_wp2
  go_ret
  exact ⟨rfl, rfl⟩
end Go.Proofs.YbulkazyyFmt
