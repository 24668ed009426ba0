/-
  The walk of LawS2559BFresh.
-/
import Derived.Test.YbulkazyyFmtCheck
namespace Go.Proofs.YbulkazyyFmt
open Go.ChangeShapes Go.WideShapes Go.ChangeAt Go.RowKit Go.Deep

/-- What a walk is told of a slice of bytes that came in. -/
def IsBytes (w : World) (a : Option Addr) (len : Nat) : Prop :=
  len = 0 ∨ ∃ b off zs, a = some ⟨b, off, none⟩ ∧ b < w.heap.size ∧ (∀ i, i < len → w.cell? ⟨b, off + i, none⟩ = some (.int .u8 ((zs : List Nat).getD i 0 : Nat))) ∧ ∀ i, zs.getD i 0 ≤ 255

/-- zzs2559bleave, of whatever leaves. -/
theorem leave_any {x g l d n own m len cap : Nat} {a : Option Addr} {date place miss : Int} {G L : List Bool} {w w0 : World} (hx : Ex w x g l d n own date place false miss G L) (hm : Row w m L)
    (hmn : m ≠ x ∧ m ≠ g ∧ m ≠ l ∧ m ≠ d) (hB : Below w0.heap.size w0 w) (hBl : w0.heap.size ≤ l) (hBd : w0.heap.size ≤ d) (hBm : w0.heap.size ≤ m) (hn : n ≤ 1000) (h0 : 0 < n) (hlen : len ≤ 1024) (hs : IsBytes w0 a len) :
    Calls Ybaf.prog 6 #[.pointer (some ⟨x, 0, none⟩), .slice (some ⟨m, 0, none⟩) n n, .int .i64 own, .slice a len cap] w fun e w' => e = .returned (.bool true) ∧ ∃ L', Ex w' x g l d n own date place false miss G L' ∧ Row w' m L' ∧ Below w0.heap.size w0 w' := by
  rcases hs with rfl | ⟨b, off, zs, rfl, hb, hc, hz⟩
  · refine (leave_none a w).mono ?_
    rintro e w' ⟨rfl, rfl⟩
    exact ⟨rfl, L, hx, hm, hB⟩
  · exact leave_some hx hm hmn hB hBl hBd hBm hn h0 hlen hb hc hz

theorem Row.alloc {w : World} {b : Nat} {xs : List Bool} (h : Row w b xs) (o : Obj) : Row (w.alloc o) b xs := by
  unfold Row
  rw [Below.heap_alloc w o b (lt_of_block h)]
  exact h
theorem Ex.alloc {w : World} {x g l d n own : Nat} {date place miss : Int} {asked : Bool} {G L : List Bool} (h : Ex w x g l d n own date place asked miss G L) (o : Obj) : Ex (w.alloc o) x g l d n own date place asked miss G L :=
  ⟨by rw [Below.heap_alloc w o x (lt_of_block h.bx)]; exact h.bx, h.rg.alloc o, h.rl.alloc o, h.rd.alloc o, h.lg, h.ll, h.ne⟩

/-- What stands when the Exclusion and the law's own row are made. -/
structure Begun (w0 w : World) (x g l d m n own : Nat) (L : List Bool) : Prop where
  ex : Ex w x g l d n own 0 0 false 0 (List.replicate n false) L
  row : Row w m L
  mn : m ≠ x ∧ m ≠ g ∧ m ≠ l ∧ m ≠ d
  below : Below w0.heap.size w0 w
  le : w0.heap.size ≤ x ∧ w0.heap.size ≤ g ∧ w0.heap.size ≤ l ∧ w0.heap.size ≤ d ∧ w0.heap.size ≤ m
theorem begun {w0 w : World} {x g l d n own : Nat} (hN : Ex w x g l d n own 0 0 false 0 (List.replicate n false) (List.replicate n false) ∧
      w0.heap.size ≤ x ∧ w0.heap.size ≤ g ∧ w0.heap.size ≤ l ∧ w0.heap.size ≤ d ∧ w.heap.size = w0.heap.size + 4 ∧ x < w0.heap.size + 4 ∧ g < w0.heap.size + 4 ∧ l < w0.heap.size + 4 ∧ d < w0.heap.size + 4 ∧ Below w0.heap.size w0 w) :
    Begun w0 (w.alloc (.cells ((List.replicate n false).map Value.bool).toArray 4)) x g l d w.heap.size n own (List.replicate n false) := by
  obtain ⟨h, h1, h2, h3, h4, h5, h6, h7, h8, h9, h10⟩ := hN
  exact ⟨h.alloc _, heap_alloc_new w _, by omega, h10.alloc (by omega) _, by omega⟩

theorem fresh_long (z0 z1 : Int) (a : Option Addr) (len cap : Nat) (date : Int) (w : World) (hlen : ¬ len ≤ 1024) (hl2 : len ≤ 9223372036854775807) :
    Calls Ybaf.prog 3 #[.int .u8 z0, .int .u8 z1, .slice a len cap, .int .u64 date] w fun e w' => e = .returned (.bool true) ∧ Below w.heap.size w w' := by
  go_enter Ybaf.func3, Ybaf.ntmps3
  go_wp2
  go_ret
  exact ⟨rfl, Below.refl _ _⟩

set_option maxHeartbeats 400000 in
theorem fresh_short (z0 z1 : Nat) (h0 : z0 ≤ 255) (h1 : z1 ≤ 255) (a : Option Addr) (len cap : Nat) (date : Int) (p : Addr) (w : World) (hlen : len ≤ 1024) (hs : IsBytes w a len)
    (hE : w.cell? ⟨0, 0, none⟩ = some (.iface 50 (.pointer (some p)))) (hB0 : 0 < w.heap.size) :
    Calls Ybaf.prog 3 #[.int .u8 z0, .int .u8 z1, .slice a len cap, .int .u64 date] w fun e w' => e = .returned (.bool true) ∧ Below w.heap.size w w' := by
  have HS : Hid (IsBytes w a len) := hs
  clear hs
  go_enter Ybaf.func3, Ybaf.ntmps3
  go_upto_region 4 with fail
  go_cut [9, 10] from 13 to 23 (fun s9 s10 wx => ∃ n own : Nat, s9 = .int .i64 n ∧ s10 = .int .i64 own ∧ n ≤ 1000 ∧ own < n ∧ wx = w)
  case first =>
    go_wp2
    go_meet
    case rel => exact ⟨z0 % 16 + 1, z1 % (z0 % 16 + 1), by go_num, by go_num, by omega, Nat.mod_lt _ (by omega), rfl⟩
  case rest =>
    obtain ⟨n, own, rfl, rfl, hn, ho, rfl⟩ := hcut
    have hmk := made n hn
    obtain ⟨M, hM⟩ : ∃ M, ((List.replicate n false).map Value.bool).toArray = M := ⟨_, rfl⟩
    rw [hM] at hmk
    have HM : Hid (((List.replicate n false).map Value.bool).toArray = M) := hM
    clear hM
    go_wp2_with (go_at_call 5; refine (new_any n own _ hn ho).mono ?_; rintro e w1 ⟨x, g, l, d, rfl, hN⟩; have HN : Hid (Begun _ (w1.alloc (.cells M 4)) x g l d w1.heap.size n own (List.replicate n false)) := (by rw [← HM.out]; exact begun hN); clear hN)
    refine (leave_any HN.out.ex HN.out.row HN.out.mn HN.out.below HN.out.le.2.2.1 HN.out.le.2.2.2.1 HN.out.le.2.2.2.2 hn (by omega) hlen HS.out).mono ?_
    rintro e w2 ⟨rfl, L', hL⟩
    have HL : Hid (_ ∧ _ ∧ _) := hL
    clear hL
    go_wp2_with (go_at_call 7; refine (check_any date p HL.out.1 HL.out.2.1 HN.out.mn HL.out.2.2 HN.out.le.1 HN.out.le.2.1 hn (by omega) hB0 hE).mono ?_; rintro e w3 ⟨rfl, hB3⟩)
    go_ret
    exact ⟨rfl, hB3⟩
end Go.Proofs.YbulkazyyFmt
