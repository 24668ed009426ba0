/-
  From a slice of steps that came in to what the walks are told.
-/
import Derived.Test.YbulkazzmPlaces
import Derived.Deep.SlicePairs
import Derived.OpenShut
namespace Go.Proofs.Ybulkazzm
open Go.ChangeShapes Go.WideShapes Go.ChangeAt Go.RowKit Go.Deep

theorem stepsOwn : ownKnob Yba.prog.godebug = none := by kernel_rfl
theorem stepsLaidOut : laidOutB Yba.prog = true := by kernel_rfl

theorem isSteps_of {H : Type} {enc : TypeId × Value → H} {W : World} {a : Option Addr} {len cap fuel : Nat} {x : DataW H × List MemPlace}
    (h : DataW.trod enc Yba.prog W 0 (fun _ => true) true fuel 22 (Value.slice a len cap).cells.toList = some x) : IsSteps W a len ∧ len ≤ 9223372036854775807 := by
  rcases open_slice_pairs Yba.underlying22 Yba.underlying30 (by kernel_rfl) rfl rfl (by kernel_rfl) (by kernel_rfl) h with ⟨hcs, _⟩ | ⟨p, l, c, m, n, V0, V1, D0, D1, P0, P1, hcs, _, hl, hm, hmm, _, hel⟩
  · simp [Value.cells] at hcs
    obtain ⟨rfl, rfl, rfl⟩ := hcs
    exact ⟨.inl rfl, by omega⟩
  · simp [Value.cells] at hcs
    obtain ⟨rfl, rfl, rfl⟩ := hcs
    unfold maxLen at hm
    refine ⟨?_, by omega⟩
    by_cases h0 : len = 0
    · exact .inl h0
    · simp at hmm
      obtain ⟨b, off, spot⟩ := p
      have hspot : spot = none := by simpa [Addr.add] using World.cell?_spot (hel 0 (by omega)).1
      subst hspot
      have key : ∀ i, ∃ (kk : Int) (z : Nat), i < len → W.cell? ⟨b, off + i * 2, none⟩ = some (.int .i64 kk) ∧ W.cell? ⟨b, off + i * 2 + 1, none⟩ = some (.int .u8 (z : Nat)) ∧ z ≤ 255 := by
        intro i
        by_cases hi : i < len
        · obtain ⟨e0, e1, t0, t1⟩ := hel i (by omega)
          obtain ⟨kk, hk, _⟩ := DataW.trod_int Yba.underlying3 t0
          obtain ⟨z, hz, _, wz⟩ := DataW.trod_int Yba.underlying5 t1
          simp at hk hz
          obtain ⟨z0, z1⟩ := bounds_u8 wz
          obtain ⟨zn, rfl⟩ := Int.eq_ofNat_of_zero_le z0
          refine ⟨kk, zn, fun _ => ⟨?_, ?_, by omega⟩⟩
          · rw [← add_plain, e0, hk]
          · have := e1
            rw [add_plain, ← Nat.add_assoc] at this
            rw [this, hz]
        · exact ⟨0, 0, fun h => absurd h hi⟩
      refine .inr ⟨b, off, fun i => (key i).choose, fun i => (key i).choose_spec.choose, rfl, block_lt_of_cell (by simpa [Addr.add] using (hel 0 (by omega)).1), fun i hi => (key i).choose_spec.choose_spec hi⟩
end Go.Proofs.Ybulkazzm
