/-
  The walk of LawS2559BCycle.
-/
import Derived.Test.YbulkazyyFmtMore
namespace Go.Proofs.YbulkazyyFmt
open Go.ChangeShapes Go.WideShapes Go.ChangeAt Go.RowKit Go.Deep

theorem cycle_long (z0 z1 : Int) (a b : Option Addr) (len cap len2 cap2 : Nat) (date date2 : Int) (w : World) (hlen : ¬ (len ≤ 1024 ∧ len2 ≤ 1024)) (hl : len ≤ 9223372036854775807) (hl2 : len2 ≤ 9223372036854775807) :
    Calls Ybaf.prog 4 #[.int .u8 z0, .int .u8 z1, .slice a len cap, .slice b len2 cap2, .int .u64 date, .int .u64 date2] w fun e w' => e = .returned (.bool true) ∧ Below w.heap.size w w' := by
  by_cases h1 : len ≤ 1024
  · have h2 : ¬ len2 ≤ 1024 := fun h => hlen ⟨h1, h⟩
    clear hlen
    go_enter Ybaf.func4, Ybaf.ntmps4
    go_wp2
    go_ret
    exact ⟨rfl, Below.refl _ _⟩
  · clear hlen
    go_enter Ybaf.func4, Ybaf.ntmps4
    go_wp2
    go_ret
    exact ⟨rfl, Below.refl _ _⟩

set_option maxHeartbeats 1000000 in
theorem cycle_short (z0 z1 : Nat) (h0 : z0 ≤ 255) (h1 : z1 ≤ 255) (a b : Option Addr) (len cap len2 cap2 : Nat) (date date2 : Int) (p : Addr) (w : World) (hlen : len ≤ 1024) (hlen2 : len2 ≤ 1024) (hs : IsBytes w a len) (hs2 : IsBytes w b len2)
    (hE : w.cell? ⟨0, 0, none⟩ = some (.iface 50 (.pointer (some p)))) (hB0 : 0 < w.heap.size) :
    Calls Ybaf.prog 4 #[.int .u8 z0, .int .u8 z1, .slice a len cap, .slice b len2 cap2, .int .u64 date, .int .u64 date2] w fun e w' => e = .returned (.bool true) ∧ Below w.heap.size w w' := by
  have HS : Hid (IsBytes w a len ∧ IsBytes w b len2) := ⟨hs, hs2⟩
  clear hs hs2
  go_enter Ybaf.func4, Ybaf.ntmps4
  go_upto_region 4 with fail
  go_cut [13, 14] from 20 to 35 (fun s9 s10 wx => ∃ n own : Nat, s9 = .int .i64 n ∧ s10 = .int .i64 own ∧ n ≤ 1000 ∧ own < n ∧ wx = w)
  case first =>
    go_wp2
    go_meet
    case rel => exact ⟨z0 % 16 + 1, z1 % (z0 % 16 + 1), by go_num, by go_num, by omega, Nat.mod_lt _ (by omega), rfl⟩
  case rest =>
    obtain ⟨n, own, rfl, rfl, hn, ho, rfl⟩ := hcut
    have hmk := made n hn
    obtain ⟨M, hM⟩ : ∃ M, ((List.replicate n false).map Value.bool).toArray = M := ⟨_, rfl⟩
    rw [hM] at hmk
    have HM : Hid (((List.replicate n false).map Value.bool).toArray = M) := hM
    clear hM
    go_wp2_with (go_at_call 5; refine (new_any n own _ hn ho).mono ?_; rintro e w1 ⟨x, g, l, d, rfl, hN⟩; have HN : Hid (Begun _ (w1.alloc (.cells M 4)) x g l d w1.heap.size n own (List.replicate n false)) := (by rw [← HM.out]; exact begun hN); clear hN)
    refine (leave_any HN.out.ex HN.out.row HN.out.mn HN.out.below HN.out.le.2.2.1 HN.out.le.2.2.2.1 HN.out.le.2.2.2.2 hn (by omega) hlen HS.out.1).mono ?_
    rintro e w2 ⟨rfl, L', hL⟩
    have HL : Hid (_ ∧ _ ∧ _) := hL
    clear hL hmk
    obtain ⟨m, hm⟩ : ∃ m, w1.heap.size = m := ⟨_, rfl⟩
    have HQ : Hid ((m ≠ x ∧ m ≠ g ∧ m ≠ l ∧ m ≠ d) ∧ (wc.heap.size ≤ x ∧ wc.heap.size ≤ g ∧ wc.heap.size ≤ l ∧ wc.heap.size ≤ d ∧ wc.heap.size ≤ m)) := by rw [← hm]; exact ⟨HN.out.mn, HN.out.le⟩
    rw [hm] at HL
    rw [hm]
    clear hm HN HM
    go_wp2_with (go_at_call 8; refine (request_free date HL.out.1 HL.out.2.2 HQ.out.2.1 HQ.out.2.2.1 hn (by omega)).mono ?_; rintro e w3 ⟨rfl, hx3, hB3, hr3⟩; have HR : Hid (_ ∧ _ ∧ _) := ⟨hx3, hr3 m L' HQ.out.1.1 HQ.out.1.2.1 HL.out.2.1, hB3⟩; clear hx3 hB3 hr3 HL)
    go_loopw [17] (fun i wr => ∃ k : Nat, k ≤ n ∧ i = .int .i64 k ∧ ∃ (t : Nat) (G : List Bool), t + cnt L' own k = cnt L' own n ∧ (∀ j, k ≤ j → G.getD j false = false) ∧ Ex wr x g l d n own date own true t G L' ∧ Row wr m L' ∧ Below wc.heap.size wc wr) (fun i _ => n - (intOf i).toNat)
    case atStart => exact ⟨0, Nat.zero_le _, rfl, cnt L' own n, List.replicate n false, rfl, fun j _ => by simp [List.getD, List.getElem?_replicate]; split <;> rfl, HR.out⟩
    case round =>
      clear HR
      obtain ⟨k, hk, rfl, t, G, ht, hG, hxr, hmr, hBr⟩ := hrel
      by_cases hlt : k < n
      · have dk := hmr.cell k (by rw [hxr.ll]; exact hlt)
        have hcn := cnt_le L' own n
        have hcm := cnt_mono L' own n (k + 1) hlt
        obtain ⟨q, hq⟩ : ∃ q, L'.getD k false = q := ⟨_, rfl⟩
        rw [hq] at dk
        have R : Hid (cnt L' own (k + 1) = cnt L' own k + if k ≠ own ∧ q = false then 1 else 0) := by unfold Hid; simp only [cnt]; rw [hq]
        have H : Hid (_ ∧ _ ∧ _ ∧ _ ∧ _ ∧ _) := ⟨hxr, hmr, hBr, hq, hG k (Nat.le_refl _), hG⟩
        have HT : Hid (t + cnt L' own k = cnt L' own n ∧ cnt L' own (k + 1) ≤ cnt L' own n ∧ cnt L' own n ≤ n) := ⟨ht, hcm, hcn⟩
        clear hxr hmr hBr hq hG ht hcm hcn
        by_cases hko : k = own
        · subst hko
          have hko' : (((k : Int)) != (k : Int)) = false := by simp
          go_wp2
          go_roundw
          case rel => exact ⟨k + 1, by omega, by go_num, t, G, by have := HT.out.1; have := R.out; simp at this; omega, fun j hj => H.out.2.2.2.2.2 j (by omega), H.out.1, H.out.2.1, H.out.2.2.1⟩
          case measure => simp [intOf]; omega
        · have hko' : (((k : Int)) != (own : Int)) = true := by simp; omega
          cases q with
          | false =>
            have hR : cnt L' own (k + 1) = cnt L' own k + 1 := by rw [R.out, if_pos ⟨hko, rfl⟩]
            have ht1 : 1 ≤ t ∧ t ≤ 1000 := by have := HT.out; omega
            have HR : Hid (cnt L' own (k + 1) = cnt L' own k + 1) := hR
            clear hR
            go_wp2_with (go_at_call 9; refine (granted_any H.out.1 H.out.2.1 HQ.out.1 H.out.2.2.1 HQ.out.2.1 HQ.out.2.2.1 (by omega) (by omega) hlt hko H.out.2.2.2.1 H.out.2.2.2.2.1).mono ?_; rintro e w4 ⟨rfl, hx4, hm4, hB4⟩; have H4 : Hid (_ ∧ _ ∧ _) := ⟨hx4, hm4, hB4⟩; clear hx4 hm4 hB4)
            go_roundw
            case rel =>
              refine ⟨k + 1, by omega, by go_num, t - 1, G.set k true, by have := HT.out.1; have := HR.out; omega, fun j hj => ?_, ?_, H4.out.2.1, H4.out.2.2⟩
              · have := H.out.2.2.2.2.2 j (by omega)
                rw [List.getD_eq_getElem?_getD, List.getElem?_set_ne (by omega), ← List.getD_eq_getElem?_getD]
                exact this
              · have e : ((t - 1 : Nat) : Int) = (t : Int) - 1 := by omega
                rw [e]
                exact H4.out.1
            case measure => simp [intOf]; omega
          | true =>
            go_wp2
            go_roundw
            case rel => exact ⟨k + 1, by omega, by go_num, t, G, by have := HT.out.1; have := R.out; simp at this; omega, fun j hj => H.out.2.2.2.2.2 j (by omega), H.out.1, H.out.2.1, H.out.2.2.1⟩
            case measure => simp [intOf]; omega
      · obtain rfl : k = n := by omega
        obtain rfl : t = 0 := by omega
        have c3 := hxr.c3; have c5 := hxr.c5
        have H : Hid (_ ∧ _ ∧ _) := ⟨hxr, hmr, hBr⟩
        clear hxr hmr hBr hG ht
        go_wp2_with (first
          | (go_at_call 10; refine (inside_any _ c3 c5).mono ?_; rintro e w4 ⟨rfl, rfl⟩)
          | (go_at_call 11; refine (release_any H.out.1 H.out.2.1 HQ.out.1.1 H.out.2.2 HQ.out.2.1 hn).mono ?_; rintro e w5 ⟨rfl, hx5, hm5, hB5⟩; have H5 : Hid (_ ∧ _ ∧ _) := ⟨hx5, hm5, hB5⟩; clear hx5 hm5 hB5))
        refine (leave_any H5.out.1 H5.out.2.1 HQ.out.1 H5.out.2.2 HQ.out.2.2.2.1 HQ.out.2.2.2.2.1 HQ.out.2.2.2.2.2 hn (by omega) hlen2 HS.out.2).mono ?_
        rintro e w6 ⟨rfl, L6, hL6⟩
        have H6 : Hid (_ ∧ _ ∧ _) := hL6
        clear hL6
        go_wp2_with (go_at_call 7; refine (check_any date2 p H6.out.1 H6.out.2.1 HQ.out.1 H6.out.2.2 HQ.out.2.1 HQ.out.2.2.1 hn (by omega) hB0 hE).mono ?_; rintro e w7 ⟨rfl, hB7⟩)
        go_ret
        exact ⟨rfl, hB7⟩
end Go.Proofs.YbulkazyyFmt
