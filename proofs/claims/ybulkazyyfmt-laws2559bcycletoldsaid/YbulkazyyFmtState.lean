/-
  The state of an Exclusion in memory: its block of eight cells, its three rows of bools; what a store turns of it. Plain laws: no Go text is walked here.
-/
import Derived.Test.YbulkazyyFmtRows
import Derived.WalkKit
import Derived.ProofKit
import Derived.Below
import Derived.Laws.Rows
import Derived.Lib.SliceRun
import Derived.Deep.QuietTactic
namespace Go.Proofs.YbulkazyyFmt
open Go.ChangeShapes Go.WideShapes Go.ChangeAt Go.RowKit

/-- A row of bools: the whole block b. -/
def Row (w : World) (b : Nat) (xs : List Bool) : Prop := w.heap[b]? = some (.cells (xs.map Value.bool).toArray 4 (0, 0))

theorem Row.cell {w : World} {b : Nat} {xs : List Bool} (h : Row w b xs) (i : Nat) (hi : i < xs.length) : w.cell? ⟨b, i, none⟩ = some (.bool (xs.getD i false)) := by
  rw [cell_of_row w b i _ 4 (0, 0) h]
  simp [hi]
theorem Row.free {w : World} {b : Nat} {xs : List Bool} (h : Row w b xs) (i : Nat) : w.frozen? ⟨b, i, none⟩ = false := frozen_of_row w b i _ 4 h
theorem Row.set {w : World} {b : Nat} {xs : List Bool} (h : Row w b xs) (i : Nat) (v : Bool) : Row (w.setCell ⟨b, i, none⟩ (.bool v)) b (xs.set i v) := by
  have := heap_setCell_same w b i _ 4 (.bool v) h
  unfold Row
  rw [this]
  simp [List.map_set]
theorem Row.other {w : World} {b : Nat} {xs : List Bool} (h : Row w b xs) (a : Addr) (v : Value) (hb : b ≠ a.block) : Row (w.setCell a v) b xs := by
  unfold Row
  rw [heap_setCell_other w a b v hb]
  exact h
theorem Row.drewN {w : World} {b : Nat} {xs : List Bool} (h : Row w b xs) (k : Nat) : Row (w.drewN k) b xs := h
theorem Row.drew {w : World} {b : Nat} {xs : List Bool} (h : Row w b xs) : Row w.drew b xs := h
theorem Row.setCells_other {b g : Nat} {xs : List Bool} (hb : b ≠ g) : ∀ (vs : List Value) (o : Nat) (w : World), Row w b xs → Row (w.setCells g o vs) b xs
  | [], _, _, h => h
  | _ :: vs, o, _, h => Row.setCells_other hb vs (o + 1) _ (h.other ⟨g, o, none⟩ _ hb)

theorem take_set_succ {α : Type} (v : α) : ∀ (xs : List α) (o : Nat), o < xs.length → (xs.set o v).take (o + 1) = xs.take o ++ [v]
  | _ :: _, 0, _ => by simp
  | x :: xs, o + 1, h => by simpa using take_set_succ v xs o (by simpa using h)

theorem setCells_block {g : Nat} {t : TypeId} : ∀ (vs : List Value) (o : Nat) (w : World) (cs : Array Value), w.heap[g]? = some (.cells cs t (0, 0)) → o + vs.length = cs.size →
    (w.setCells g o vs).heap[g]? = some (.cells (cs.toList.take o ++ vs).toArray t (0, 0))
  | [], o, w, cs, h, ho => by
    simp at ho
    rw [World.setCells, h, List.append_nil, List.take_of_length_le (by simp; omega)]
  | v :: vs, o, w, cs, h, ho => by
    simp at ho
    have h1 := heap_setCell_same w g o cs t v h
    have := setCells_block vs (o + 1) _ _ h1 (by simp; omega)
    rw [World.setCells, this, Array.toList_setIfInBounds, take_set_succ v cs.toList o (by simp; omega), List.append_assoc]
    rfl

theorem setCells_heap_other {b g : Nat} (hb : b ≠ g) : ∀ (vs : List Value) (o : Nat) (w : World), (w.setCells g o vs).heap[b]? = w.heap[b]?
  | [], _, _ => rfl
  | v :: vs, o, w => by
    rw [World.setCells, setCells_heap_other hb vs (o + 1)]
    exact heap_setCell_other w ⟨g, o, none⟩ b v hb

theorem below_setCells {B g : Nat} {w0 : World} (hg : B ≤ g) : ∀ (vs : List Value) (o : Nat) (w : World), Below B w0 w → Below B w0 (w.setCells g o vs)
  | [], _, _, h => h
  | v :: vs, o, _, h => below_setCells hg vs (o + 1) _ (h.setCell (p := ⟨g, o, none⟩) hg v)

/-- AN EXCLUSION AT BLOCK x: the eight cells of the struct; its rows 'granted' (g), 'left' (l), 'deferred' (d: nobody waits). -/
structure Ex (w : World) (x g l d n : Nat) (own : Nat) (date place : Int) (asked : Bool) (miss : Int) (G L : List Bool) : Prop where
  bx : w.heap[x]? = some (.cells #[.int .i64 own, .int .u64 date, .int .i64 place, .bool asked, .slice (some ⟨g, 0, none⟩) n n, .int .i64 miss, .slice (some ⟨l, 0, none⟩) n n, .slice (some ⟨d, 0, none⟩) n n] 43 (0, 0))
  rg : Row w g G
  rl : Row w l L
  rd : Row w d (List.replicate n false)
  lg : G.length = n
  ll : L.length = n
  ne : x ≠ g ∧ x ≠ l ∧ x ≠ d ∧ g ≠ l ∧ g ≠ d ∧ l ≠ d

section
variable {w : World} {x g l d n own : Nat} {date place miss : Int} {asked : Bool} {G L : List Bool}
theorem Ex.c0 (h : Ex w x g l d n own date place asked miss G L) : w.cell? ⟨x, 0, none⟩ = some (.int .i64 own) := by simp [World.cell?, h.bx]
theorem Ex.c1 (h : Ex w x g l d n own date place asked miss G L) : w.cell? ⟨x, 1, none⟩ = some (.int .u64 date) := by simp [World.cell?, h.bx]
theorem Ex.c2 (h : Ex w x g l d n own date place asked miss G L) : w.cell? ⟨x, 2, none⟩ = some (.int .i64 place) := by simp [World.cell?, h.bx]
theorem Ex.c3 (h : Ex w x g l d n own date place asked miss G L) : w.cell? ⟨x, 3, none⟩ = some (.bool asked) := by simp [World.cell?, h.bx]
theorem Ex.c4 (h : Ex w x g l d n own date place asked miss G L) : w.cell? ⟨x, 4, none⟩ = some (.slice (some ⟨g, 0, none⟩) n n) := by simp [World.cell?, h.bx]
theorem Ex.c5 (h : Ex w x g l d n own date place asked miss G L) : w.cell? ⟨x, 5, none⟩ = some (.int .i64 miss) := by simp [World.cell?, h.bx]
theorem Ex.c6 (h : Ex w x g l d n own date place asked miss G L) : w.cell? ⟨x, 6, none⟩ = some (.slice (some ⟨l, 0, none⟩) n n) := by simp [World.cell?, h.bx]
theorem Ex.c7 (h : Ex w x g l d n own date place asked miss G L) : w.cell? ⟨x, 7, none⟩ = some (.slice (some ⟨d, 0, none⟩) n n) := by simp [World.cell?, h.bx]
theorem Ex.free (h : Ex w x g l d n own date place asked miss G L) (j : Nat) : w.frozen? ⟨x, j, none⟩ = false := frozen_of_row w x j _ 43 h.bx

theorem Ex.drewN (h : Ex w x g l d n own date place asked miss G L) (k : Nat) : Ex (w.drewN k) x g l d n own date place asked miss G L := ⟨h.bx, h.rg, h.rl, h.rd, h.lg, h.ll, h.ne⟩
theorem Ex.drew (h : Ex w x g l d n own date place asked miss G L) : Ex w.drew x g l d n own date place asked miss G L := ⟨h.bx, h.rg, h.rl, h.rd, h.lg, h.ll, h.ne⟩
/-- A store elsewhere. -/
theorem Ex.other (h : Ex w x g l d n own date place asked miss G L) (a : Addr) (v : Value) (h1 : x ≠ a.block) (h2 : g ≠ a.block) (h3 : l ≠ a.block) (h4 : d ≠ a.block) : Ex (w.setCell a v) x g l d n own date place asked miss G L :=
  ⟨by rw [heap_setCell_other w a x v h1]; exact h.bx, h.rg.other a v h2, h.rl.other a v h3, h.rd.other a v h4, h.lg, h.ll, h.ne⟩
theorem Ex.setAsked (h : Ex w x g l d n own date place asked miss G L) (b : Bool) : Ex (w.setCell ⟨x, 3, none⟩ (.bool b)) x g l d n own date place b miss G L := by
  obtain ⟨n1, n2, n3, n4, n5, n6⟩ := h.ne
  exact ⟨by rw [heap_setCell_same w x 3 _ 43 (.bool b) h.bx]; simp, h.rg.other _ _ (Ne.symm n1), h.rl.other _ _ (Ne.symm n2), h.rd.other _ _ (Ne.symm n3), h.lg, h.ll, h.ne⟩
theorem Ex.setDate (h : Ex w x g l d n own date place asked miss G L) (z : Int) : Ex (w.setCell ⟨x, 1, none⟩ (.int .u64 z)) x g l d n own z place asked miss G L := by
  obtain ⟨n1, n2, n3, n4, n5, n6⟩ := h.ne
  exact ⟨by rw [heap_setCell_same w x 1 _ 43 (.int .u64 z) h.bx]; simp, h.rg.other _ _ (Ne.symm n1), h.rl.other _ _ (Ne.symm n2), h.rd.other _ _ (Ne.symm n3), h.lg, h.ll, h.ne⟩
theorem Ex.setPlace (h : Ex w x g l d n own date place asked miss G L) (z : Int) : Ex (w.setCell ⟨x, 2, none⟩ (.int .i64 z)) x g l d n own date z asked miss G L := by
  obtain ⟨n1, n2, n3, n4, n5, n6⟩ := h.ne
  exact ⟨by rw [heap_setCell_same w x 2 _ 43 (.int .i64 z) h.bx]; simp, h.rg.other _ _ (Ne.symm n1), h.rl.other _ _ (Ne.symm n2), h.rd.other _ _ (Ne.symm n3), h.lg, h.ll, h.ne⟩
theorem Ex.setMiss (h : Ex w x g l d n own date place asked miss G L) (z : Int) : Ex (w.setCell ⟨x, 5, none⟩ (.int .i64 z)) x g l d n own date place asked z G L := by
  obtain ⟨n1, n2, n3, n4, n5, n6⟩ := h.ne
  exact ⟨by rw [heap_setCell_same w x 5 _ 43 (.int .i64 z) h.bx]; simp, h.rg.other _ _ (Ne.symm n1), h.rl.other _ _ (Ne.symm n2), h.rd.other _ _ (Ne.symm n3), h.lg, h.ll, h.ne⟩
theorem Ex.setG (h : Ex w x g l d n own date place asked miss G L) (i : Nat) (b : Bool) : Ex (w.setCell ⟨g, i, none⟩ (.bool b)) x g l d n own date place asked miss (G.set i b) L := by
  obtain ⟨n1, n2, n3, n4, n5, n6⟩ := h.ne
  exact ⟨by rw [heap_setCell_other w ⟨g, i, none⟩ x _ n1]; exact h.bx, h.rg.set i b, h.rl.other _ _ (Ne.symm n4), h.rd.other _ _ (Ne.symm n5), by simp [h.lg], h.ll, h.ne⟩
theorem Ex.setL (h : Ex w x g l d n own date place asked miss G L) (i : Nat) (b : Bool) : Ex (w.setCell ⟨l, i, none⟩ (.bool b)) x g l d n own date place asked miss G (L.set i b) := by
  obtain ⟨n1, n2, n3, n4, n5, n6⟩ := h.ne
  exact ⟨by rw [heap_setCell_other w ⟨l, i, none⟩ x _ n2]; exact h.bx, h.rg.other _ _ n4, h.rl.set i b, h.rd.other _ _ (Ne.symm n6), h.lg, by simp [h.ll], h.ne⟩
theorem set_replicate (n i : Nat) : (List.replicate n false).set i false = List.replicate n false := by
  apply List.ext_getElem?
  intro j
  rw [List.getElem?_set]
  split
  · subst_vars
    split
    · rename_i h; simp at h; simp [h]
    · rename_i h; simp at h; simp; omega
  · rfl
theorem Ex.setD (h : Ex w x g l d n own date place asked miss G L) (i : Nat) : Ex (w.setCell ⟨d, i, none⟩ (.bool false)) x g l d n own date place asked miss G L := by
  obtain ⟨n1, n2, n3, n4, n5, n6⟩ := h.ne
  refine ⟨by rw [heap_setCell_other w ⟨d, i, none⟩ x _ n3]; exact h.bx, h.rg.other _ _ n5, h.rl.other _ _ n6, ?_, h.lg, h.ll, h.ne⟩
  have := h.rd.set i false
  rwa [set_replicate] at this
/-- clear(x.granted) -/
theorem Ex.cleared (h : Ex w x g l d n own date place asked miss G L) : Ex (w.setCells g 0 (List.replicate n (.bool false))) x g l d n own date place asked miss (List.replicate n false) L := by
  obtain ⟨n1, n2, n3, n4, n5, n6⟩ := h.ne
  refine ⟨by rw [setCells_heap_other n1]; exact h.bx, ?_, Row.setCells_other (Ne.symm n4) _ _ _ h.rl, Row.setCells_other (Ne.symm n5) _ _ _ h.rd, by simp, h.ll, h.ne⟩
  have := setCells_block (List.replicate n (.bool false)) 0 w _ h.rg (by simp [h.lg])
  unfold Row
  rw [this]
  simp
end

/-- 'clear(xs)' of a row that lies at a block's head: a law for the walk; what is known of the world behind it is K. -/
theorem wpList_clear_to {P : Program} {w : World} {ops : Array Oper} {rest : List Oper} {o : Oper} {a : Act} {Q : Exit → Act → World → Prop} (hgd : o.guard = none) (e : Operand) (dT : TypeId)
    (ho : o.op = .call { callee := .builtin .clear, args := #[e], argTypes := #[dT] }) (elem : TypeId) (hu : P.underlying dT = some (.slice elem)) (z : Value) (hv : ∀ w, (zeroValue elem).run P w = .ok z w) (hz : z.cells = #[z]) (h1 : z.oneCell' = true)
    (b n c : Nat) (hn : 0 < n) (hd : a.eval e = .slice (some ⟨b, 0, none⟩) n c) (hc : ∀ j, j < n → (w.cell? ⟨b, 0 + j, none⟩).isSome = true) (hf : ∀ j, j < n → w.frozen? ⟨b, 0 + j, none⟩ = false)
    (K : World → Prop) (hK : K (w.setCells b 0 (List.replicate n z)))
    (h : ∀ w', K w' → wpList P ops Q rest (a.put o.dst (.tuple #[])) w') : wpList P ops Q (o :: rest) a w := by
  refine wpList_plain hgd fun K' hK' => ?_
  have hrun := Lib.run_clear_slice (P := P) w dT elem o.type z hu hv hz h1 b 0 n c hn hc hf
  unfold Oper.wp
  simp [execOp, ho, resolve, invoke, builtin, hd, hrun, Result.andThen]
  exact hK' _ _ (h _ hK)

/-- How many of the first k processes, other than own, are still in. -/
def cnt (L : List Bool) (own : Nat) : Nat → Nat
  | 0 => 0
  | k + 1 => cnt L own k + if k ≠ own ∧ L.getD k false = false then 1 else 0
theorem cnt_le (L : List Bool) (own : Nat) : ∀ k, cnt L own k ≤ k
  | 0 => Nat.le_refl _
  | k + 1 => by have := cnt_le L own k; simp only [cnt]; split <;> omega
end Go.Proofs.YbulkazyyFmt
