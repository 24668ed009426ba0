/-
  The walks of the Exclusion's methods, as the laws of this seat come to them.
-/
import Derived.Test.YbulkazyyFmtState
import Derived.Deep.QuietTactic
import Derived.BigQuiet
import Derived.WalkSpells
import Derived.Deep.CutRange
namespace Go.Proofs.YbulkazyyFmt
open Go.ChangeShapes Go.WideShapes Go.ChangeAt Go.RowKit

/-- checkOther: no panic where the place is another process's. -/
theorem checkOther_any (s : ByteArray) (p own n : Int) (w : World) (h1 : 0 ≤ p) (h2 : p < n) (h3 : (p == own) = false) :
    Calls Ybaf.prog 15 #[.string s, .int .i64 p, .int .i64 own, .int .i64 n] w fun e w' => e = .returned (.tuple #[]) ∧ w' = w := by
  go_enter Ybaf.func15, Ybaf.ntmps15
  go_wp2
  go_end0
  exact ⟨rfl, rfl⟩

theorem checkPlace_any (s : ByteArray) (own n : Int) (w : World) (h1 : 0 ≤ own) (h2 : own < n) :
    Calls Ybaf.prog 12 #[.string s, .int .i64 own, .int .i64 n] w fun e w' => e = .returned (.tuple #[]) ∧ w' = w := by
  go_enter Ybaf.func12, Ybaf.ntmps12
  go_wp2
  go_end0
  exact ⟨rfl, rfl⟩

set_option maxHeartbeats 400000 in
theorem left_low (x g l d s n : Nat) (own : Int) (b : Bool) (w : World) (_hn : n ≤ 1000) (hs : s < n) (hso : ((s : Int) == own) = false)
    (hxl : x ≠ l) (hxd : x ≠ d) (hld : l ≠ d)
    (c0 : w.cell? ⟨x, 0, none⟩ = some (.int .i64 own)) (c3 : w.cell? ⟨x, 3, none⟩ = some (.bool false))
    (c4 : w.cell? ⟨x, 4, none⟩ = some (.slice (some ⟨g, 0, none⟩) n n)) (c6 : w.cell? ⟨x, 6, none⟩ = some (.slice (some ⟨l, 0, none⟩) n n))
    (c7 : w.cell? ⟨x, 7, none⟩ = some (.slice (some ⟨d, 0, none⟩) n n))
    (cl : w.cell? ⟨l, s, none⟩ = some (.bool false)) (fl : w.frozen? ⟨l, s, none⟩ = false)
    (cd : w.cell? ⟨d, s, none⟩ = some (.bool b)) (fd : w.frozen? ⟨d, s, none⟩ = false) :
    Calls Ybaf.prog 13 #[.pointer (some ⟨x, 0, none⟩), .int .i64 s] w fun e w' => e = .returned .nilIface ∧ ∃ k, w' = ((w.setCell ⟨l, s, none⟩ (.bool true)).setCell ⟨d, s, none⟩ (.bool false)).drewN k := by
  go_enter Ybaf.func13, Ybaf.ntmps13
  go_wp2_with fail
  go_quiet ((go_at_call 15; exact Calls.quiet_of_same (checkOther_any _ _ _ _ _ (by omega) (by omega) hso)))
  go_wp2
  go_ret
  exact ⟨rfl, _, rfl⟩

/-- (*Exclusion).Left of a process that is still in, while nothing is asked. -/
theorem left_any {x g l d n own s : Nat} {date place miss : Int} {G L : List Bool} {w w0 : World} {B m : Nat} (hx : Ex w x g l d n own date place false miss G L) (hm : Row w m L)
    (hmn : m ≠ x ∧ m ≠ g ∧ m ≠ l ∧ m ≠ d) (hB : Below B w0 w) (hBl : B ≤ l) (hBd : B ≤ d) (hn : n ≤ 1000) (hs : s < n) (hso : s ≠ own) (hin : L.getD s false = false) :
    Calls Ybaf.prog 13 #[.pointer (some ⟨x, 0, none⟩), .int .i64 s] w fun e w' => e = .returned .nilIface ∧ Ex w' x g l d n own date place false miss G (L.set s true) ∧ Row w' m L ∧ Below B w0 w' := by
  obtain ⟨n1, n2, n3, n4, n5, n6⟩ := hx.ne
  have cl := hx.rl.cell s (by rw [hx.ll]; exact hs)
  rw [hin] at cl
  refine (left_low x g l d s n own false w hn hs (by simp; omega) n2 n3 n6 hx.c0 hx.c3 hx.c4 hx.c6 hx.c7 cl (hx.rl.free s) ?_ (hx.rd.free s)).mono ?_
  · have := hx.rd.cell s (by simpa using hs)
    simpa [hs] using this
  · rintro e w' ⟨rfl, k, rfl⟩
    exact ⟨rfl, ((hx.setL s true).setD s).drewN k, ((hm.other _ _ hmn.2.2.1).other _ _ hmn.2.2.2).drewN k, ((hB.setCell (p := ⟨l, s, none⟩) hBl _).setCell (p := ⟨d, s, none⟩) hBd _).trans ⟨rfl, rfl, rfl, Nat.le_refl _, fun _ _ => rfl⟩⟩

/-- (*Exclusion).Request while a request stands: ErrHeld, nothing turns. -/
theorem request_held {x : Nat} (date : Int) (v : Value) (w : World) (c3 : w.cell? ⟨x, 3, none⟩ = some (.bool true)) (c : w.cell? ⟨0, 0, none⟩ = some v) (a : Addr) (hv : v = .iface 50 (.pointer (some a))) :
    Calls Ybaf.prog 8 #[.pointer (some ⟨x, 0, none⟩), .int .u64 date] w fun e w' => e = .returned v ∧ w' = w := by
  subst hv
  go_enter Ybaf.func8, Ybaf.ntmps8
  go_wp2
  go_ret
  exact ⟨rfl, rfl⟩

theorem inside_any {x : Nat} {asked : Bool} {miss : Int} (w : World) (c3 : w.cell? ⟨x, 3, none⟩ = some (.bool asked)) (c5 : w.cell? ⟨x, 5, none⟩ = some (.int .i64 miss)) :
    Calls Ybaf.prog 10 #[.pointer (some ⟨x, 0, none⟩)] w fun e w' => e = .returned (.bool (asked && (miss == 0))) ∧ w' = w := by
  cases asked
  all_goals
    go_enter Ybaf.func10, Ybaf.ntmps10
    go_wp2
    go_ret
    exact ⟨rfl, rfl⟩

theorem waiting_any {x : Nat} {asked : Bool} {miss : Int} (w : World) (c3 : w.cell? ⟨x, 3, none⟩ = some (.bool asked)) (c5 : w.cell? ⟨x, 5, none⟩ = some (.int .i64 miss)) :
    Calls Ybaf.prog 14 #[.pointer (some ⟨x, 0, none⟩)] w fun e w' => e = .returned (.bool (asked && decide (0 < miss))) ∧ w' = w := by
  cases asked
  all_goals
    go_enter Ybaf.func14, Ybaf.ntmps14
    go_wp2
    go_ret
    exact ⟨rfl, rfl⟩

theorem zero4 (w : World) : (zeroValue 4).run Ybaf.prog w = .ok (.bool false) w := by kernel_rfl

set_option maxHeartbeats 400000 in
/-- (*Exclusion).Request: accepted. -/
theorem request_free {x g l d n own : Nat} {date0 place miss : Int} {G L : List Bool} {w w0 : World} {B : Nat} (date : Int) (hx : Ex w x g l d n own date0 place false miss G L)
    (hB : Below B w0 w) (hBx : B ≤ x) (hBg : B ≤ g) (hn : n ≤ 1000) (h0 : 0 < n) :
    Calls Ybaf.prog 8 #[.pointer (some ⟨x, 0, none⟩), .int .u64 date] w fun e w' => e = .returned .nilIface ∧ Ex w' x g l d n own date own true (cnt L own n) (List.replicate n false) L ∧ Below B w0 w' ∧
      (∀ m xs, m ≠ x → m ≠ g → Row w m xs → Row w' m xs) := by
  have c0 := hx.c0; have c1 := hx.c1; have c2 := hx.c2; have c3 := hx.c3; have c4 := hx.c4; have c5 := hx.c5; have c6 := hx.c6
  have f3 := hx.free 3; have f1 := hx.free 1; have f2 := hx.free 2; have f5 := hx.free 5
  have hx3 := ((hx.setAsked true).setDate date).setPlace own
  have hB3 := ((hB.setCell (p := ⟨x, 3, none⟩) hBx (.bool true)).setCell (p := ⟨x, 1, none⟩) hBx (.int .u64 date)).setCell (p := ⟨x, 2, none⟩) hBx (.int .i64 own)
  have hr3 : ∀ m xs, m ≠ x → m ≠ g → Row w m xs → Row (((w.setCell ⟨x, 3, none⟩ (.bool true)).setCell ⟨x, 1, none⟩ (.int .u64 date)).setCell ⟨x, 2, none⟩ (.int .i64 own)) m xs := fun m xs h1 h2 h => ((h.other _ _ h1).other _ _ h1).other _ _ h1
  have hcc : ∀ j, j < n → (((w.setCell ⟨x, 3, none⟩ (.bool true)).setCell ⟨x, 1, none⟩ (.int .u64 date)).setCell ⟨x, 2, none⟩ (.int .i64 own)).cell? ⟨g, 0 + j, none⟩ = some (.bool (G.getD (0 + j) false)) := fun j hj => hx3.rg.cell (0 + j) (by rw [hx.lg]; omega)
  have hff := hx3.rg.free
  have H3 : Hid (_ ∧ _ ∧ _ ∧ _ ∧ _) := ⟨hx3, hB3, hr3, hcc, hff⟩
  clear hx3 hB3 hr3 hcc hff
  go_enter Ybaf.func8, Ybaf.ntmps8
  go_upto_region 5 with fail
  go_cut [] from 24 to 27 (fun w1 => Ex w1 x g l d n own date own true miss (List.replicate n false) L ∧ Below B w0 w1 ∧ (∀ m xs, m ≠ x → m ≠ g → Row w m xs → Row w1 m xs))
  case first =>
    go_wp2_with (refine wpList_clear_to rfl (.tmp 27) 26 rfl 4 Ybaf.underlying26 (.bool false) zero4 rfl rfl g n n h0 rfl (fun j hj => by rw [H3.out.2.2.2.1 j hj]; rfl) (fun j _ => H3.out.2.2.2.2 _) (fun w' => Ex w' x g l d n own date own true miss (List.replicate n false) L ∧ Below B w0 w' ∧ (∀ m xs, m ≠ x → m ≠ g → Row w m xs → Row w' m xs)) ⟨H3.out.1.cleared, below_setCells hBg _ _ _ H3.out.2.1, fun m xs h1 h2 h => Row.setCells_other h2 _ _ _ (H3.out.2.2.1 m xs h1 h2 h)⟩ ?_; rintro w1 HH)
    go_meet
    case rel => exact HH
  case rest =>
    obtain ⟨hx1, hB1, hr1⟩ := hcut
    have d0 := hx1.c0; have d5 := hx1.c5; have d6 := hx1.c6; have e5 := hx1.free 5
    have H2 : Hid (_ ∧ _ ∧ _) := ⟨hx1.setMiss 0, hB1.setCell (p := ⟨x, 5, none⟩) hBx (.int .i64 0), fun m xs h1 h2 h => (hr1 m xs h1 h2 h).other ⟨x, 5, none⟩ (.int .i64 0) h1⟩
    clear hx hB hx1 hB1 hr1 H3
    go_wp2
    go_loopw [36] (fun i wr => ∃ k : Nat, k ≤ n ∧ i = .int .i64 k ∧ Ex wr x g l d n own date own true (cnt L own k) (List.replicate n false) L ∧ Below B w0 wr ∧ (∀ m xs, m ≠ x → m ≠ g → Row w m xs → Row wr m xs)) (fun i _ => n - (intOf i).toNat)
    case atStart => exact ⟨0, Nat.zero_le _, rfl, H2.out.1, H2.out.2.1, H2.out.2.2⟩
    case round =>
      clear H2 d0 d5 d6 e5 c0 c1 c2 c3 c4 c5 c6 f1 f2 f3 f5
      obtain ⟨k, hk, rfl, hxr, hBr, hrr⟩ := hrel
      have d0 := hxr.c0; have d5 := hxr.c5; have e5 := hxr.free 5
      by_cases hlt : k < n
      · have dk := hxr.rl.cell k (by rw [hxr.ll]; exact hlt)
        have hcl := cnt_le L own k
        obtain ⟨b, hb⟩ : ∃ b, L.getD k false = b := ⟨_, rfl⟩
        rw [hb] at dk
        have R : Hid (cnt L own (k + 1) = cnt L own k + if k ≠ own ∧ b = false then 1 else 0) := by unfold Hid; simp only [cnt]; rw [hb]
        have H : Hid (_ ∧ _ ∧ _) := ⟨hxr, hBr, hrr⟩
        clear hxr hBr hrr hb
        by_cases hko : k = own
        · subst hko
          have hko' : (((k : Int)) != (k : Int)) = false := by simp
          go_wp2
          go_roundw
          case rel => exact ⟨k + 1, by omega, by go_num, by rw [R.out]; simpa using H.out.1, H.out.2⟩
          case measure => simp [intOf]; omega
        · have hko' : (((k : Int)) != (own : Int)) = true := by simp; omega
          cases b with
          | false =>
            go_wp2
            go_roundw
            case rel => exact ⟨k + 1, by omega, by go_num, by rw [R.out, if_pos ⟨hko, rfl⟩]; exact H.out.1.setMiss _, H.out.2.1.setCell (p := ⟨x, 5, none⟩) hBx _, fun m xs h1 h2 h => (H.out.2.2 m xs h1 h2 h).other _ _ h1⟩
            case measure => simp [intOf]; omega
          | true =>
            go_wp2
            go_roundw
            case rel => exact ⟨k + 1, by omega, by go_num, by rw [R.out]; simpa using H.out.1, H.out.2⟩
            case measure => simp [intOf]; omega
      · obtain rfl : k = n := by omega
        have H : Hid (_ ∧ _ ∧ _) := ⟨hxr, hBr, hrr⟩
        clear hxr hBr hrr
        go_wp2
        go_ret
        exact ⟨rfl, H.out⟩
end Go.Proofs.YbulkazyyFmt
