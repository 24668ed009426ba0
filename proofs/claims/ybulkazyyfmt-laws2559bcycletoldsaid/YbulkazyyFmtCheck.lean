/-
  The walk of zzs2559bcheck: a request is accepted, and a second one refused.
-/
import Derived.Test.YbulkazyyFmtLeave
import Derived.LaidEql
namespace Go.Proofs.YbulkazyyFmt
open Go.ChangeShapes Go.WideShapes Go.ChangeAt Go.RowKit Go.Deep

theorem comp50 : (Ybaf.prog.info? 50).map (·.comparable) = some true := by kernel_rfl
theorem size52 : (Ybaf.prog.info? 52).map (·.size) = some 1 := by kernel_rfl
theorem neq_same (a : Addr) (w : World) : (binOp .neq 31 (.iface 50 (.pointer (some a))) (.iface 50 (.pointer (some a)))).run Ybaf.prog w = .ok (.bool false) w := by
  obtain ⟨i, hi, hcmp⟩ := Option.map_eq_some_iff.1 comp50
  obtain ⟨j, hj, _⟩ := Option.map_eq_some_iff.1 size52
  simp only [binOp]
  simp [Op.equal, Op.maxDepth, run_equalIn_iface_ptr_same w 9998 a Ybaf.underlying31 Ybaf.underlying50 hi hcmp hj]

set_option maxHeartbeats 1000000 in
theorem check_any {x g l d n own m : Nat} {date0 place miss : Int} {G L : List Bool} {w w0 : World} {B : Nat} (date : Int) (a : Addr) (hx : Ex w x g l d n own date0 place false miss G L) (hm : Row w m L)
    (hmn : m ≠ x ∧ m ≠ g ∧ m ≠ l ∧ m ≠ d) (hB : Below B w0 w) (hBx : B ≤ x) (hBg : B ≤ g) (hn : n ≤ 1000) (h0 : 0 < n) (hB0 : 0 < B)
    (hE : w0.cell? ⟨0, 0, none⟩ = some (.iface 50 (.pointer (some a)))) :
    Calls Ybaf.prog 7 #[.pointer (some ⟨x, 0, none⟩), .slice (some ⟨m, 0, none⟩) n n, .int .i64 own, .int .u64 date] w fun e w' => e = .returned (.bool true) ∧ Below B w0 w' := by
  go_enter Ybaf.func7, Ybaf.ntmps7
  go_wp2_with (go_at_call 8; refine (request_free _ hx hB hBx hBg hn h0).mono ?_; rintro e w1 ⟨rfl, hx1, hB1, hr1⟩; have hm1 := hr1 m L hmn.1 hmn.2.1 hm; clear hr1 hx hm hB)
  go_loop [9, 10] (fun t i => ∃ k : Nat, k ≤ n ∧ i = .int .i64 k ∧ t = .int .i64 (cnt L own k)) (fun _ i => n - (intOf i).toNat)
  case atStart => exact ⟨0, Nat.zero_le _, rfl, rfl⟩
  case round =>
    obtain ⟨k, hk, rfl, rfl⟩ := hrel
    have hcl := cnt_le L own k
    by_cases hlt : k < n
    · have dk := hm1.cell k (by rw [hx1.ll]; exact hlt)
      obtain ⟨b, hb⟩ : ∃ b, L.getD k false = b := ⟨_, rfl⟩
      rw [hb] at dk
      have R : Hid (cnt L own (k + 1) = cnt L own k + if k ≠ own ∧ b = false then 1 else 0) := by unfold Hid; simp only [cnt]; rw [hb]
      clear hb
      by_cases hko : k = own
      · subst hko
        have hko' : (((k : Int)) != (k : Int)) = false := by simp
        go_wp2
        go_round
        case rel => exact ⟨k + 1, by omega, by go_num, by rw [R.out]; simp⟩
        case measure => simp [intOf]; omega
      · have hko' : (((k : Int)) != (own : Int)) = true := by simp; omega
        cases b with
        | false =>
          go_wp2
          go_round
          case rel => exact ⟨k + 1, by omega, by go_num, by rw [R.out, if_pos ⟨hko, rfl⟩]; go_num⟩
          case measure => simp [intOf]; omega
        | true =>
          go_wp2
          go_round
          case rel => exact ⟨k + 1, by omega, by go_num, by rw [R.out]; simp⟩
          case measure => simp [intOf]; omega
    · obtain rfl : k = n := by omega
      have c1 := hx1.c1; have c2 := hx1.c2; have c3 := hx1.c3; have c4 := hx1.c4; have c5 := hx1.c5
      obtain ⟨t, ht⟩ : ∃ t, cnt L own k = t := ⟨_, rfl⟩
      rw [ht] at c5 hcl hx1
      rw [ht]
      have q1 : ((t : Int) != (t : Int)) = false := by simp
      have q2 : (date != date) = false := by simp
      have q3 : ((own : Int) != (own : Int)) = false := by simp
      have q4 : ((k : Int) != (k : Int)) = false := by simp
      clear ht
      go_wp2
      go_loop [11] (fun i => ∃ j : Nat, j ≤ k ∧ i = .int .i64 j) (fun i => k - (intOf i).toNat)
      case atStart => exact ⟨0, Nat.zero_le _, rfl⟩
      case round =>
        obtain ⟨j, hj, rfl⟩ := hrel
        by_cases hjk : j < k
        · have gj := hx1.rg.cell j (by simpa using hjk)
          have ej : (List.replicate k false).getD j false = false := by simp [hjk]
          rw [ej] at gj
          clear ej
          go_wp2
          go_round
          case rel => exact ⟨j + 1, by omega, by go_num⟩
          case measure => simp [intOf]; omega
        · have hE1 : w1.cell? ⟨0, 0, none⟩ = some (.iface 50 (.pointer (some a))) := (hB1.cell (p := ⟨0, 0, none⟩) hB0).trans hE
          have hne := neq_same a
          by_cases ht0 : t = 0
          · subst ht0
            go_wp2_with (first | (go_at_call 10; refine (inside_any _ c3 c5).mono ?_; rintro e w2 ⟨rfl, rfl⟩) | (go_at_call 14; refine (waiting_any _ c3 c5).mono ?_; rintro e w2 ⟨rfl, rfl⟩))
            go_quiet ((go_at_call 8; exact Calls.quiet_of_same (request_held _ _ _ (by exact c3) (by exact hE1) a rfl)))
            go_wp2
            go_ret
            exact ⟨rfl, hB1.trans ⟨rfl, rfl, rfl, Nat.le_refl _, fun _ _ => rfl⟩⟩
          · have t1 : ((t : Int) == 0) = false := by simp; omega
            have t2 : (0 : Int) < (t : Int) := by omega
            go_wp2_with (first | (go_at_call 10; refine (inside_any _ c3 c5).mono ?_; rintro e w2 ⟨rfl, rfl⟩) | (go_at_call 14; refine (waiting_any _ c3 c5).mono ?_; rintro e w2 ⟨rfl, rfl⟩))
            go_quiet ((go_at_call 8; exact Calls.quiet_of_same (request_held _ _ _ (by exact c3) (by exact hE1) a rfl)))
            go_wp2
            go_ret
            exact ⟨rfl, hB1.trans ⟨rfl, rfl, rfl, Nat.le_refl _, fun _ _ => rfl⟩⟩
end Go.Proofs.YbulkazyyFmt
