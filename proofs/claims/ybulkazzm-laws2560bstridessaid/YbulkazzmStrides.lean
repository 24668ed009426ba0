/-
  The strides in memory: the struct's block, the row of strides (three cells each). Plain laws.
-/
import Derived.Test.YbulkazzmRows
import Derived.WalkKit
import Derived.ProofKit
import Derived.Below
import Derived.Laws.Rows
import Derived.Deep.OwnRows
import Derived.Laws.MakeOwn
import Derived.Deep.QuietTactic
namespace Go.Proofs.Ybulkazzm
open Go.ChangeShapes Go.WideShapes Go.ChangeAt Go.RowKit Go.Deep

abbrev Tri : Type := Int × Int × Int
def flat : List Tri → List Value
  | [] => []
  | p :: r => .int .i32 p.1 :: .int .i32 p.2.1 :: .int .i32 p.2.2 :: flat r
theorem flat_length : ∀ ts : List Tri, (flat ts).length = ts.length * 3
  | [] => rfl
  | _ :: r => by simp only [flat, List.length_cons, flat_length r]; omega
theorem flat_get0 : ∀ (ts : List Tri) (j : Nat), j < ts.length → (flat ts)[j * 3]? = some (.int .i32 (ts.getD j (0, 0, 0)).1)
  | _ :: _, 0, _ => rfl
  | _ :: r, j + 1, h => by
    have := flat_get0 r j (by simpa using h)
    rw [show (j + 1) * 3 = j * 3 + 1 + 1 + 1 by omega]
    simpa [flat] using this
theorem flat_get1 : ∀ (ts : List Tri) (j : Nat), j < ts.length → (flat ts)[j * 3 + 1]? = some (.int .i32 (ts.getD j (0, 0, 0)).2.1)
  | _ :: _, 0, _ => rfl
  | _ :: r, j + 1, h => by
    have := flat_get1 r j (by simpa using h)
    rw [show (j + 1) * 3 + 1 = (j * 3 + 1) + 1 + 1 + 1 by omega]
    simpa [flat] using this
theorem flat_get2 : ∀ (ts : List Tri) (j : Nat), j < ts.length → (flat ts)[j * 3 + 2]? = some (.int .i32 (ts.getD j (0, 0, 0)).2.2)
  | _ :: _, 0, _ => rfl
  | _ :: r, j + 1, h => by
    have := flat_get2 r j (by simpa using h)
    rw [show (j + 1) * 3 + 2 = (j * 3 + 2) + 1 + 1 + 1 by omega]
    simpa [flat] using this
theorem flat_set0 (v : Int) : ∀ (ts : List Tri) (j : Nat), j < ts.length → (flat ts).set (j * 3) (.int .i32 v) = flat (ts.set j (v, (ts.getD j (0, 0, 0)).2.1, (ts.getD j (0, 0, 0)).2.2))
  | _ :: _, 0, _ => rfl
  | _ :: r, j + 1, h => by
    have := flat_set0 v r j (by simpa using h)
    rw [show (j + 1) * 3 = j * 3 + 1 + 1 + 1 by omega]
    simpa [flat] using this
theorem flat_set1 (v : Int) : ∀ (ts : List Tri) (j : Nat), j < ts.length → (flat ts).set (j * 3 + 1) (.int .i32 v) = flat (ts.set j ((ts.getD j (0, 0, 0)).1, v, (ts.getD j (0, 0, 0)).2.2))
  | _ :: _, 0, _ => rfl
  | _ :: r, j + 1, h => by
    have := flat_set1 v r j (by simpa using h)
    rw [show (j + 1) * 3 + 1 = (j * 3 + 1) + 1 + 1 + 1 by omega]
    simpa [flat] using this
theorem flat_set2 (v : Int) : ∀ (ts : List Tri) (j : Nat), j < ts.length → (flat ts).set (j * 3 + 2) (.int .i32 v) = flat (ts.set j ((ts.getD j (0, 0, 0)).1, (ts.getD j (0, 0, 0)).2.1, v))
  | _ :: _, 0, _ => rfl
  | _ :: r, j + 1, h => by
    have := flat_set2 v r j (by simpa using h)
    rw [show (j + 1) * 3 + 2 = (j * 3 + 2) + 1 + 1 + 1 by omega]
    simpa [flat] using this
theorem flat_zero : ∀ n : Nat, flat (List.replicate n (0, 0, 0)) = List.replicate (n * 3) (.int .i32 0)
  | 0 => rfl
  | n + 1 => by
    rw [show (n + 1) * 3 = n * 3 + 1 + 1 + 1 by omega]
    simp [List.replicate_succ, flat, flat_zero n]

/-- A row of strides: the whole block. -/
def TRow (w : World) (t : Nat) (ts : List Tri) : Prop := w.heap[t]? = some (.cells (flat ts).toArray 37 (0, 0))
section
variable {w : World} {t : Nat} {ts : List Tri}
theorem TRow.c0 (h : TRow w t ts) (j : Nat) (hj : j < ts.length) : w.cell? ⟨t, j * 3, none⟩ = some (.int .i32 (ts.getD j (0, 0, 0)).1) := by
  rw [cell_of_row w t _ _ 37 (0, 0) h, List.getElem?_toArray, flat_get0 ts j hj]
theorem TRow.c1 (h : TRow w t ts) (j : Nat) (hj : j < ts.length) : w.cell? ⟨t, j * 3 + 1, none⟩ = some (.int .i32 (ts.getD j (0, 0, 0)).2.1) := by
  rw [cell_of_row w t _ _ 37 (0, 0) h, List.getElem?_toArray, flat_get1 ts j hj]
theorem TRow.c2 (h : TRow w t ts) (j : Nat) (hj : j < ts.length) : w.cell? ⟨t, j * 3 + 2, none⟩ = some (.int .i32 (ts.getD j (0, 0, 0)).2.2) := by
  rw [cell_of_row w t _ _ 37 (0, 0) h, List.getElem?_toArray, flat_get2 ts j hj]
theorem TRow.free (h : TRow w t ts) (o : Nat) : w.frozen? ⟨t, o, none⟩ = false := frozen_of_row w t o _ 37 h
theorem TRow.set0 (h : TRow w t ts) (j : Nat) (hj : j < ts.length) (v : Int) : TRow (w.setCell ⟨t, j * 3, none⟩ (.int .i32 v)) t (ts.set j (v, (ts.getD j (0, 0, 0)).2.1, (ts.getD j (0, 0, 0)).2.2)) := by
  unfold TRow
  rw [heap_setCell_same w t _ _ 37 _ h, ← flat_set0 v ts j hj]
  simp
theorem TRow.set1 (h : TRow w t ts) (j : Nat) (hj : j < ts.length) (v : Int) : TRow (w.setCell ⟨t, j * 3 + 1, none⟩ (.int .i32 v)) t (ts.set j ((ts.getD j (0, 0, 0)).1, v, (ts.getD j (0, 0, 0)).2.2)) := by
  unfold TRow
  rw [heap_setCell_same w t _ _ 37 _ h, ← flat_set1 v ts j hj]
  simp
theorem TRow.set2 (h : TRow w t ts) (j : Nat) (hj : j < ts.length) (v : Int) : TRow (w.setCell ⟨t, j * 3 + 2, none⟩ (.int .i32 v)) t (ts.set j ((ts.getD j (0, 0, 0)).1, (ts.getD j (0, 0, 0)).2.1, v)) := by
  unfold TRow
  rw [heap_setCell_same w t _ _ 37 _ h, ← flat_set2 v ts j hj]
  simp
theorem getD_set_same (ts : List Tri) (j : Nat) (hj : j < ts.length) (p : Tri) : (ts.set j p).getD j (0, 0, 0) = p := by simp [hj]
/-- step and count stored, in either order. -/
theorem TRow.set12 (h : TRow w t ts) (j : Nat) (hj : j < ts.length) (b c : Int) : TRow ((w.setCell ⟨t, j * 3 + 1, none⟩ (.int .i32 b)).setCell ⟨t, j * 3 + 2, none⟩ (.int .i32 c)) t (ts.set j ((ts.getD j (0, 0, 0)).1, b, c)) := by
  have h1 := (h.set1 j hj b).set2 j (by simpa using hj) c
  rw [getD_set_same ts j hj, List.set_set] at h1
  exact h1
theorem TRow.set21 (h : TRow w t ts) (j : Nat) (hj : j < ts.length) (b c : Int) : TRow ((w.setCell ⟨t, j * 3 + 2, none⟩ (.int .i32 c)).setCell ⟨t, j * 3 + 1, none⟩ (.int .i32 b)) t (ts.set j ((ts.getD j (0, 0, 0)).1, b, c)) := by
  have h1 := (h.set2 j hj c).set1 j (by simpa using hj) b
  rw [getD_set_same ts j hj, List.set_set] at h1
  exact h1
/-- A whole stride stored. -/
theorem TRow.set012 (h : TRow w t ts) (j : Nat) (hj : j < ts.length) (a b c : Int) : TRow (((w.setCell ⟨t, j * 3, none⟩ (.int .i32 a)).setCell ⟨t, j * 3 + 1, none⟩ (.int .i32 b)).setCell ⟨t, j * 3 + 2, none⟩ (.int .i32 c)) t (ts.set j (a, b, c)) := by
  have h1 := (h.set0 j hj a).set12 j (by simpa using hj) b c
  rw [getD_set_same ts j hj, List.set_set] at h1
  exact h1
theorem TRow.other (h : TRow w t ts) (a : Addr) (v : Value) (hb : t ≠ a.block) : TRow (w.setCell a v) t ts := by
  unfold TRow
  rw [heap_setCell_other w a t v hb]
  exact h
theorem TRow.drewN (h : TRow w t ts) (k : Nat) : TRow (w.drewN k) t ts := h
theorem TRow.of_block {w' : World} (h : TRow w t ts) (hb : w'.heap[t]? = w.heap[t]?) : TRow w' t ts := by unfold TRow; rw [hb]; exact h
end

theorem info37 : (Yba.prog.info? 37).map (fun i => (i.zero, i.size, i.bytes)) = some (some (.agg #[.int .i32 0, .int .i32 0, .int .i32 0]), 3, 12) := by kernel_rfl
theorem made3 (n : Nat) : madeCells #[Value.int .i32 0, Value.int .i32 0, Value.int .i32 0] (n * 3) = (flat (List.replicate n (0, 0, 0))).toArray := by
  rw [flat_zero]
  apply Array.ext
  · simp [madeCells]
  · intro i h1 h2
    simp [madeCells]
    have : i % 3 < 3 := Nat.mod_lt _ (by decide)
    match hq : i % 3, this with
    | 0, _ => rfl
    | 1, _ => rfl
    | 2, _ => rfl
/-- 'make([]stride, n)': a new row of n strides of nothing. -/
theorem made_strides (n : Nat) (hn : n ≤ 1000) (w : World) : (Instr.makeSlice 32 (.int .i64 (n : Int)) (.int .i64 (n : Int))).run Yba.prog w = .ok (.slice (some ⟨w.heap.size, 0, none⟩) n n) (w.alloc (.cells (flat (List.replicate n (0, 0, 0))).toArray 37)) := by
  obtain ⟨i, hi, hz⟩ := Option.map_eq_some_iff.1 info37
  simp only [Prod.mk.injEq] at hz
  obtain ⟨hz, hs, hb⟩ := hz
  have h := run_make (P := Yba.prog) w 32 37 i _ Yba.underlying32 hi hz .i64 .i64 (n : Int) (n : Int) (by omega) (Int.le_refl _) (by rw [hb]; omega) (by omega)
  rw [h, hs]
  simp only [Int.toNat_natCast]
  rw [show (Value.agg #[Value.int .i32 0, Value.int .i32 0, Value.int .i32 0]).cells = #[Value.int .i32 0, Value.int .i32 0, Value.int .i32 0] from rfl, made3]

/-- THE STRIDES AT BLOCK x: the struct, its row. -/
structure Sd (w : World) (x t nn : Nat) (home first : Int) (fv : Value) (ts : List Tri) : Prop where
  bx : w.heap[x]? = some (.cells #[.int .i64 nn, .int .i64 home, .int .i64 first, fv, .slice (some ⟨t, 0, none⟩) (2 * nn) (2 * nn)] 34 (0, 0))
  bt : TRow w t ts
  len : ts.length = 2 * nn
section
variable {w : World} {x t nn : Nat} {home first : Int} {fv : Value} {ts : List Tri}
theorem Sd.c0 (h : Sd w x t nn home first fv ts) : w.cell? ⟨x, 0, none⟩ = some (.int .i64 nn) := by simp [World.cell?, h.bx]
theorem Sd.c1 (h : Sd w x t nn home first fv ts) : w.cell? ⟨x, 1, none⟩ = some (.int .i64 home) := by simp [World.cell?, h.bx]
theorem Sd.c2 (h : Sd w x t nn home first fv ts) : w.cell? ⟨x, 2, none⟩ = some (.int .i64 first) := by simp [World.cell?, h.bx]
theorem Sd.c3 (h : Sd w x t nn home first fv ts) : w.cell? ⟨x, 3, none⟩ = some fv := by simp [World.cell?, h.bx]
theorem Sd.c4 (h : Sd w x t nn home first fv ts) : w.cell? ⟨x, 4, none⟩ = some (.slice (some ⟨t, 0, none⟩) (2 * nn) (2 * nn)) := by simp [World.cell?, h.bx]
theorem Sd.ne (h : Sd w x t nn home first fv ts) : x ≠ t := by
  intro e
  have h1 := h.bx
  rw [e, show w.heap[t]? = some (.cells (flat ts).toArray 37 (0, 0)) from h.bt] at h1
  simp at h1
theorem Sd.of_blocks {w' : World} (h : Sd w x t nn home first fv ts) (h1 : w'.heap[x]? = w.heap[x]?) (h2 : w'.heap[t]? = w.heap[t]?) : Sd w' x t nn home first fv ts :=
  ⟨by rw [h1]; exact h.bx, h.bt.of_block h2, h.len⟩
theorem Sd.alloc (h : Sd w x t nn home first fv ts) (o : Obj) : Sd (w.alloc o) x t nn home first fv ts :=
  h.of_blocks (Below.heap_alloc w o x (lt_of_block h.bx)) (Below.heap_alloc w o t (lt_of_block h.bt))
theorem Sd.drewN (h : Sd w x t nn home first fv ts) (k : Nat) : Sd (w.drewN k) x t nn home first fv ts := ⟨h.bx, h.bt, h.len⟩
theorem Sd.below {w' : World} (h : Sd w x t nn home first fv ts) (hb : Below w.heap.size w w') : Sd w' x t nn home first fv ts :=
  h.of_blocks (hb.block x (lt_of_block h.bx)) (hb.block t (lt_of_block h.bt))
theorem Sd.with_row {w' : World} {ts' : List Tri} (h : Sd w x t nn home first fv ts) (h1 : w'.heap[x]? = w.heap[x]?) (h2 : TRow w' t ts') (hl : ts'.length = ts.length) : Sd w' x t nn home first fv ts' :=
  ⟨by rw [h1]; exact h.bx, h2, by rw [hl]; exact h.len⟩
end

/-- What one task numbered g makes of a stride. -/
def upd (g : Int) (p : Tri) : Tri :=
  if 0 < p.2.2 then
    if p.2.2 = 1 then (p.1, wrap32 (wrap64 (g - p.1)), 2)
    else if g = wrap64 (p.1 + wrap64 (p.2.2 * p.2.1)) then (p.1, p.2.1, wrap32 (p.2.2 + 1))
    else (wrap32 g, 0, 1)
  else (wrap32 g, 0, 1)
/-- Each part fits an int32. -/
def Fit (p : Tri) : Prop := (-2147483648 ≤ p.1 ∧ p.1 ≤ 2147483647) ∧ (-2147483648 ≤ p.2.1 ∧ p.2.1 ≤ 2147483647) ∧ (-2147483648 ≤ p.2.2 ∧ p.2.2 ≤ 2147483647)
theorem fit_wrap32 (n : Int) : -2147483648 ≤ wrap32 n ∧ wrap32 n ≤ 2147483647 := by unfold wrap32; omega
theorem upd_fit {g : Int} {p : Tri} (h : Fit p) : Fit (upd g p) := by
  obtain ⟨h1, h2, h3⟩ := h
  unfold upd
  split
  · split
    · exact ⟨h1, fit_wrap32 _, by dsimp only; decide⟩
    · split
      · exact ⟨h1, h2, fit_wrap32 _⟩
      · exact ⟨fit_wrap32 _, by dsimp only; decide, by dsimp only; decide⟩
  · exact ⟨fit_wrap32 _, by dsimp only; decide, by dsimp only; decide⟩
/-- Where task k, placed on node n, is counted. -/
def kd (home k : Int) (nn n : Nat) : Nat := if (wrap64 (home + k)).tmod nn = (n : Int) - 1 then 2 * (n - 1) else 2 * (n - 1) + 1
theorem kd_lt {home k : Int} {nn n : Nat} (h1 : 1 ≤ n) (h2 : n ≤ nn) : kd home k nn n < 2 * nn := by unfold kd; split <;> omega
end Go.Proofs.Ybulkazzm
