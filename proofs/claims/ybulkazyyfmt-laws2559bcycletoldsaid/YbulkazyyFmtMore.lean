/-
  The walks of Granted and Release, as LawS2559BCycle comes to them.
-/
import Derived.Test.YbulkazyyFmtFresh
namespace Go.Proofs.YbulkazyyFmt
open Go.ChangeShapes Go.WideShapes Go.ChangeAt Go.RowKit Go.Deep

theorem cnt_mono (L : List Bool) (own : Nat) : ∀ n k, k ≤ n → cnt L own k ≤ cnt L own n
  | 0, k, h => by obtain rfl : k = 0 := by omega
                  exact Nat.le_refl _
  | n + 1, k, h => by
    by_cases e : k = n + 1
    · subst e; exact Nat.le_refl _
    · have := cnt_mono L own n k (by omega)
      simp only [cnt]
      omega

set_option maxHeartbeats 400000 in
theorem granted_low (x g l s n : Nat) (own miss : Int) (w : World) (hm1 : 1 ≤ miss) (hm2 : miss ≤ 1000) (hs : s < n) (hso : ((s : Int) == own) = false)
    (hxg : x ≠ g)
    (c0 : w.cell? ⟨x, 0, none⟩ = some (.int .i64 own)) (c3 : w.cell? ⟨x, 3, none⟩ = some (.bool true))
    (c4 : w.cell? ⟨x, 4, none⟩ = some (.slice (some ⟨g, 0, none⟩) n n)) (c5 : w.cell? ⟨x, 5, none⟩ = some (.int .i64 miss)) (c6 : w.cell? ⟨x, 6, none⟩ = some (.slice (some ⟨l, 0, none⟩) n n))
    (f5 : w.frozen? ⟨x, 5, none⟩ = false)
    (cl : w.cell? ⟨l, s, none⟩ = some (.bool false))
    (cg : w.cell? ⟨g, s, none⟩ = some (.bool false)) (fg : w.frozen? ⟨g, s, none⟩ = false) :
    Calls Ybaf.prog 9 #[.pointer (some ⟨x, 0, none⟩), .int .i64 s] w fun e w' => e = .returned .nilIface ∧ ∃ k, w' = ((w.setCell ⟨g, s, none⟩ (.bool true)).setCell ⟨x, 5, none⟩ (.int .i64 (miss - 1))).drewN k := by
  go_enter Ybaf.func9, Ybaf.ntmps9
  go_wp2_with fail
  go_quiet ((go_at_call 15; exact Calls.quiet_of_same (checkOther_any _ _ _ _ _ (by omega) (by omega) hso)))
  go_wp2
  go_ret
  exact ⟨rfl, _, rfl⟩

/-- (*Exclusion).Granted: the grant of a process that is still in and has not granted yet. -/
theorem granted_any {x g l d n own s : Nat} {date place miss : Int} {G L : List Bool} {w w0 : World} {B m : Nat} (hx : Ex w x g l d n own date place true miss G L) (hm : Row w m L)
    (hmn : m ≠ x ∧ m ≠ g ∧ m ≠ l ∧ m ≠ d) (hB : Below B w0 w) (hBx : B ≤ x) (hBg : B ≤ g) (h1 : 1 ≤ miss) (h2 : miss ≤ 1000) (hs : s < n) (hso : s ≠ own) (hin : L.getD s false = false) (hng : G.getD s false = false) :
    Calls Ybaf.prog 9 #[.pointer (some ⟨x, 0, none⟩), .int .i64 s] w fun e w' => e = .returned .nilIface ∧ Ex w' x g l d n own date place true (miss - 1) (G.set s true) L ∧ Row w' m L ∧ Below B w0 w' := by
  obtain ⟨n1, n2, n3, n4, n5, n6⟩ := hx.ne
  have cl := hx.rl.cell s (by rw [hx.ll]; exact hs)
  rw [hin] at cl
  have cg := hx.rg.cell s (by rw [hx.lg]; exact hs)
  rw [hng] at cg
  refine (granted_low x g l s n own miss w h1 h2 hs (by simp; omega) n1 hx.c0 hx.c3 hx.c4 hx.c5 hx.c6 (hx.free 5) cl cg (hx.rg.free s)).mono ?_
  rintro e w' ⟨rfl, k, rfl⟩
  exact ⟨rfl, ((hx.setG s true).setMiss (miss - 1)).drewN k, ((hm.other _ _ hmn.2.1).other _ _ hmn.1).drewN k, ((hB.setCell (p := ⟨g, s, none⟩) hBg _).setCell (p := ⟨x, 5, none⟩) hBx _).trans ⟨rfl, rfl, rfl, Nat.le_refl _, fun _ _ => rfl⟩⟩

set_option maxHeartbeats 400000 in
/-- (*Exclusion).Release of a process that is inside, with nobody waiting. -/
theorem release_any {x g l d n own : Nat} {date place : Int} {G L : List Bool} {w w0 : World} {B m : Nat} (hx : Ex w x g l d n own date place true 0 G L) (hm : Row w m L)
    (hmn : m ≠ x) (hB : Below B w0 w) (hBx : B ≤ x) (hn : n ≤ 1000) :
    Calls Ybaf.prog 11 #[.pointer (some ⟨x, 0, none⟩), .slice none 0 0] w fun e w' => e = .returned (.tuple #[.slice none 0 0, .nilIface]) ∧ Ex w' x g l d n own date place false 0 G L ∧ Row w' m L ∧ Below B w0 w' := by
  have c3 := hx.c3; have c5 := hx.c5; have c7 := hx.c7; have f3 := hx.free 3
  have H : Hid (_ ∧ _ ∧ _) := ⟨hx.setAsked false, hm.other ⟨x, 3, none⟩ (.bool false) hmn, hB.setCell (p := ⟨x, 3, none⟩) hBx (.bool false)⟩
  have hrd := (hx.setAsked false).rd.cell
  clear hx hm hB
  go_enter Ybaf.func11, Ybaf.ntmps11
  go_wp2_with (go_at_call 10; refine (inside_any _ c3 c5).mono ?_; rintro e w2 ⟨rfl, rfl⟩)
  go_loop [1, 21] (fun t i => t = .slice none 0 0 ∧ ∃ k : Nat, k ≤ n ∧ i = .int .i64 k) (fun _ i => n - (intOf i).toNat)
  case atStart => exact ⟨rfl, 0, Nat.zero_le _, rfl⟩
  case round =>
    obtain ⟨rfl, k, hk, rfl⟩ := hrel
    by_cases hlt : k < n
    · have dk := hrd k (by simpa using hlt)
      have ek : (List.replicate n false).getD k false = false := by simp [hlt]
      rw [ek] at dk
      clear ek hrd
      go_wp2
      go_round
      case rel => exact ⟨rfl, k + 1, by omega, by go_num⟩
      case measure => simp [intOf]; omega
    · clear hrd
      go_wp2
      go_ret2
      exact ⟨rfl, H.out⟩
end Go.Proofs.YbulkazyyFmt
