/-
  The told and tied card of LawS2559BCycle, proved. No way of the law comes to fmt: the walk asks nothing of fmt's text.
-/
import Derived.Test.YbulkazyyFmtLaid
import Derived.Test.YbulkazyyFmtCycle
namespace Go.Proofs.YbulkazyyFmt
open Go.ChangeShapes Go.WideShapes Go.ChangeAt Go.RowKit

/-- The three named variables, read as tokens. -/
theorem vars_read3 {H : Type} (enc : TypeId × Value → H) {W : World} {a0 a1 a2 : Addr} (h0 : W.var? Ybaf.prog nHeld = some #[.iface 50 (.pointer (some a0))]) (h1 : W.var? Ybaf.prog nProt = some #[.iface 50 (.pointer (some a1))]) (h2 : W.var? Ybaf.prog nNot = some #[.iface 50 (.pointer (some a2))]) (sp : Nat → Bool) :
    DataW.TrodVars enc Ybaf.prog W sp [nProt, nHeld, nNot] [tok enc (.iface 50 (.pointer (some a1))), tok enc (.iface 50 (.pointer (some a0))), tok enc (.iface 50 (.pointer (some a2)))] [.cell 1 0, .cell 0 0, .cell 2 0] :=
  ⟨1, 31, #[.iface 50 (.pointer (some a1))], 1, [], [.cell 0 0, .cell 2 0], gProt, tProt, h1, trod_held Ybaf.underlying31 (by exact trivial) 0, ⟨0, 31, #[.iface 50 (.pointer (some a0))], 1, [], [.cell 2 0], gHeld, tHeld, h0, trod_held Ybaf.underlying31 (by exact trivial) 0, ⟨2, 31, #[.iface 50 (.pointer (some a2))], 1, [], [], gNot, tNot, h2, trod_held Ybaf.underlying31 (by exact trivial) 0, rfl, rfl⟩, rfl⟩, rfl⟩

set_option maxRecDepth 100000 in
theorem cycle_lifted (os : Os) (started : os.Started) (H : Type) (enc : TypeId × Value → H) :
    ReturnsInTold none {} Ybaf.checked os 4 .any Input.okWide ((OpenSpec.ofChange Rows.lawS2559BCycleSpec).preRow enc Ybaf.prog Ybaf.f4 Rows.lawS2559BCycleRow.domain false Rows.lawS2559BCycleRow.laid)
      (fun F => ((OpenSpec.ofChange Rows.lawS2559BCycleSpec).at F).post enc Ybaf.prog Ybaf.f4 false true false false) (aloneAtReturn Ybaf.prog) nothingAlways := by
  refine returnsInTold_of_row (C := Ybaf.checked) (s := OpenSpec.ofChange Rows.lawS2559BCycleSpec) (by kernel_rfl) own started (by kernel_rfl) Ybaf.func4
    (OpenSpec.witness_stopped_atRef (enc := enc) (C := Ybaf.checked) false (World.doorLaid Ybaf.prog 66 os) #[.int .u8 0, .int .u8 0, .slice none 0 0, .slice none 0 0, .int .u64 0, .int .u64 0] rfl (by kernel_rfl) (by kernel_rfl) (by kernel_rfl)
      (OpenSpec.preRow_of_B rfl 8 (by kernel_rfl) (by kernel_rfl) (cycle_door os _))) ?_
  intro F W base args ds gs before _ _ hval0 hW _ _ _ hL _
  have hval : ∀ (j : Nat) t v, Ybaf.f4.params[j]? = some t → args[j]? = some v → Value.okWide Ybaf.prog W .any base t v := hval0
  have hW' := hW
  obtain ⟨p, q, hA0, hV0, rfl, hfz, hnd⟩ := hW
  have hA : DataW.TrodAll enc Ybaf.prog W 0 (fun _ => true) true Ybaf.f4.params.toList args.toList ds p := hA0
  have hV : DataW.TrodVars enc Ybaf.prog W (fun _ => true) [nProt, nHeld, nNot] gs q := hV0
  rw [Ybaf.params4] at hA hval
  obtain ⟨v0, vs0, d0, ds0, p0, q0, hargs, rfl, rfl, h0, r0⟩ := trodAll_cons hA
  obtain ⟨v1, vs1, d1, ds1, p1, q1, rfl, rfl, rfl, h1, r1⟩ := trodAll_cons r0
  obtain ⟨v2, vs2, d2, ds2, p2, q2, rfl, rfl, rfl, h2, r2⟩ := trodAll_cons r1
  obtain ⟨v3, vs3, d3, ds3, p3, q3, rfl, rfl, rfl, h3, r3⟩ := trodAll_cons r2
  obtain ⟨v4, vs4, d4, ds4, p4, q4, rfl, rfl, rfl, h4, r4⟩ := trodAll_cons r3
  obtain ⟨v5, vs5, d5, ds5, p5, q5, rfl, rfl, rfl, h5, r5⟩ := trodAll_cons r4
  obtain ⟨rfl, rfl, rfl⟩ := trodAll_nil r5
  obtain rfl : args = #[v0, v1, v2, v3, v4, v5] := by cases args; simp_all
  obtain ⟨a0, a1, a2, hv0, hv1, hv2⟩ := cycle_of_laid hL
  obtain ⟨rfl, rfl⟩ := hV.unique (vars_read3 enc hv0 hv1 hv2 _)
  obtain ⟨z0, rfl, rfl, rfl, w0⟩ := open_int Ybaf.underlying5 (hval 0 5 v0 rfl rfl) h0
  obtain ⟨z1, rfl, rfl, rfl, w1⟩ := open_int Ybaf.underlying5 (hval 1 5 v1 rfl rfl) h1
  obtain ⟨sa, len, cap, rfl⟩ := okWide_slice Ybaf.underlying22 (hval 2 22 v2 rfl rfl)
  have k2 := h2
  have lt2 : ∀ x ∈ p2, x.block < W.heap.size := by obtain ⟨m, hm⟩ := k2; exact DataW.trod_lt m _ _ _ hm
  obtain ⟨hs, hl63⟩ : IsBytes W sa len ∧ len ≤ 9223372036854775807 := by obtain ⟨fuel, hf⟩ := h2; exact isBytes_of hf
  obtain ⟨sb, len2, cap2, rfl⟩ := okWide_slice Ybaf.underlying22 (hval 3 22 v3 rfl rfl)
  have k3 := h3
  have lt3 : ∀ x ∈ p3, x.block < W.heap.size := by obtain ⟨m, hm⟩ := k3; exact DataW.trod_lt m _ _ _ hm
  obtain ⟨hs2, hl63b⟩ : IsBytes W sb len2 ∧ len2 ≤ 9223372036854775807 := by obtain ⟨fuel, hf⟩ := h3; exact isBytes_of hf
  obtain ⟨z4, rfl, rfl, rfl, w4⟩ := open_int Ybaf.underlying23 (hval 4 23 v4 rfl rfl) h4
  obtain ⟨z5, rfl, rfl, rfl, w5⟩ := open_int Ybaf.underlying23 (hval 5 23 v5 rfl rfl) h5
  clear hA0 hV0 hval0
  have hE : W.cell? ⟨0, 0, none⟩ = some (.iface 50 (.pointer (some a0))) := by simpa using World.var?_cell gHeld hv0 0
  have hB0 : 0 < W.heap.size := block_lt_of_cell hE
  have fin : ∀ (e : Ending) (W' : World), (e = .returned (.bool true) ∧ Below W.heap.size W W') →
      ∃ v, e = .returned v ∧ ((OpenSpec.ofChange Rows.lawS2559BCycleSpec).at F.told).post enc Ybaf.prog Ybaf.f4 false true false false W #[.int .u8 z0, .int .u8 z1, .slice sa len cap, .slice sb len2 cap2, .int .u64 z4, .int .u64 z5] v W' := by
    rintro e W' ⟨rfl, bel⟩
    exact ⟨_, rfl, _, _, _, [], _, [.cell 1 0, .cell 0 0, .cell 2 0], hW', trodAll_mk1 (shut_bool Ybaf.underlying4 _),
      (trodAll_cons_mk (shut_int Ybaf.underlying5 w0) (trodAll_cons_mk (shut_int Ybaf.underlying5 w1) (trodAll_cons_mk (Below.trod laidOut (by kernel_rfl) (of_decide_eq_true (by kernel_rfl)) k2 bel lt2) (trodAll_cons_mk (Below.trod laidOut (by kernel_rfl) (of_decide_eq_true (by kernel_rfl)) k3 bel lt3) (trodAll_cons_mk (shut_int Ybaf.underlying23 w4) (trodAll_cons_mk (shut_int Ybaf.underlying23 w5) trodAll_mk0)))))),
      vars_read3 enc (var_below bel hv0) (var_below bel hv1) (var_below bel hv2) _, bel.frame _, fun h => by cases h⟩
  by_cases hlen : len ≤ 1024 ∧ len2 ≤ 1024
  · obtain ⟨b0, b0'⟩ := bounds_u8 w0
    obtain ⟨b1, b1'⟩ := bounds_u8 w1
    obtain ⟨n0, rfl⟩ := Int.eq_ofNat_of_zero_le b0
    obtain ⟨n1, rfl⟩ := Int.eq_ofNat_of_zero_le b1
    exact (cycle_short n0 n1 (by omega) (by omega) sa sb len cap len2 cap2 z4 z5 a0 W hlen.1 hlen.2 hs hs2 hE hB0).mono fin
  · exact (cycle_long z0 z1 sa sb len cap len2 cap2 z4 z5 W hlen hl63 hl63b).mono fin

theorem cycle_proved : Rows.LawS2559BCycleToldSaid :=
  Claim7.holds_of_told_tied_any_at .later 4 Ybaf.f4 "fmt.Sprintf" ["fmt.errorf"] [] _ _ _ _ _ (by kernel_rfl) rfl rfl rfl laidOut (by kernel_rfl) rfl ⟨rfl, rfl, rfl, rfl, rfl, rfl, rfl⟩ rfl rfl (by kernel_rfl) (by kernel_rfl) Ybaf.func4 (by kernel_rfl)
    (of_decide_eq_true (by kernel_rfl)) (by unfold Func.isWrapper; first | (rw [if_pos (by decide +kernel)]; kernel_rfl) | (rw [if_neg (by decide +kernel)]; exact ⟨rfl, rfl⟩)) stops.symm rfl stopKnobs.symm (by kernel_rfl)
    (by kernel_rfl) (by kernel_rfl) (by kernel_rfl) (by kernel_rfl) (by kernel_rfl) (by kernel_rfl) (by kernel_rfl) (by kernel_rfl) (by kernel_rfl) rfl (by kernel_rfl) rfl rfl
    rfl rfl
    rfl (by kernel_rfl) (by kernel_rfl) (by kernel_rfl) (by decide) (by kernel_rfl) lawS2559BCycle_row_tie
    (OpenClaim.moreEntering_of (by kernel_rfl) (by kernel_rfl) (by kernel_rfl) (by kernel_rfl) (by kernel_rfl) (by kernel_rfl) (by kernel_rfl) (by kernel_rfl) (by kernel_rfl) (by kernel_rfl))
    ⟨_, WideRow.started_initial, quiet _⟩
    (fun os started _ H enc _ => cycle_lifted os started H enc)
#print axioms cycle_proved
end Go.Proofs.YbulkazyyFmt
