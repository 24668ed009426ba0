/-
  The told and tied card of LawS2559BFresh, proved. No way of the law comes to fmt: the walk asks nothing of fmt's text.
-/
import Derived.Test.YbulkazyyFmtLaid
namespace Go.Proofs.YbulkazyyFmt
open Go.ChangeShapes Go.WideShapes Go.ChangeAt Go.RowKit

set_option maxRecDepth 100000 in
theorem fresh_lifted (os : Os) (started : os.Started) (H : Type) (enc : TypeId × Value → H) :
    ReturnsInTold none {} Ybaf.checked os 3 .any Input.okWide ((OpenSpec.ofChange Rows.lawS2559BFreshSpec).preRow enc Ybaf.prog Ybaf.f3 Rows.lawS2559BFreshRow.domain false Rows.lawS2559BFreshRow.laid)
      (fun F => ((OpenSpec.ofChange Rows.lawS2559BFreshSpec).at F).post enc Ybaf.prog Ybaf.f3 false true false false) (aloneAtReturn Ybaf.prog) nothingAlways := by
  refine returnsInTold_of_row (C := Ybaf.checked) (s := OpenSpec.ofChange Rows.lawS2559BFreshSpec) (by kernel_rfl) own started (by kernel_rfl) Ybaf.func3
    (OpenSpec.witness_stopped_atRef (enc := enc) (C := Ybaf.checked) false (World.doorLaid Ybaf.prog 66 os) #[.int .u8 0, .int .u8 0, .slice none 0 0, .int .u64 0] rfl (by kernel_rfl) (by kernel_rfl) (by kernel_rfl)
      (OpenSpec.preRow_of_B rfl 8 (by kernel_rfl) (by kernel_rfl) (fresh_door os _))) ?_
  intro F W base args ds gs before _ _ hval0 hW _ _ _ hL _
  have hval : ∀ (j : Nat) t v, Ybaf.f3.params[j]? = some t → args[j]? = some v → Value.okWide Ybaf.prog W .any base t v := hval0
  have hW' := hW
  obtain ⟨p, q, hA0, hV0, rfl, hfz, hnd⟩ := hW
  have hA : DataW.TrodAll enc Ybaf.prog W 0 (fun _ => true) true Ybaf.f3.params.toList args.toList ds p := hA0
  have hV : DataW.TrodVars enc Ybaf.prog W (fun _ => true) [nProt, nHeld] gs q := hV0
  rw [Ybaf.params3] at hA hval
  obtain ⟨v0, vs0, d0, ds0, p0, q0, hargs, rfl, rfl, h0, r0⟩ := trodAll_cons hA
  obtain ⟨v1, vs1, d1, ds1, p1, q1, rfl, rfl, rfl, h1, r1⟩ := trodAll_cons r0
  obtain ⟨v2, vs2, d2, ds2, p2, q2, rfl, rfl, rfl, h2, r2⟩ := trodAll_cons r1
  obtain ⟨v3, vs3, d3, ds3, p3, q3, rfl, rfl, rfl, h3, r3⟩ := trodAll_cons r2
  obtain ⟨rfl, rfl, rfl⟩ := trodAll_nil r3
  obtain rfl : args = #[v0, v1, v2, v3] := by cases args; simp_all
  obtain ⟨a0, a1, hv0, hv1⟩ := fresh_of_laid hL
  obtain ⟨rfl, rfl⟩ := hV.unique (vars_read2 enc gProt tProt Ybaf.underlying31 hv1 trivial gHeld tHeld Ybaf.underlying31 hv0 trivial _)
  obtain ⟨z0, rfl, rfl, rfl, w0⟩ := open_int Ybaf.underlying5 (hval 0 5 v0 rfl rfl) h0
  obtain ⟨z1, rfl, rfl, rfl, w1⟩ := open_int Ybaf.underlying5 (hval 1 5 v1 rfl rfl) h1
  obtain ⟨sa, len, cap, rfl⟩ := okWide_slice Ybaf.underlying22 (hval 2 22 v2 rfl rfl)
  have k2 := h2
  have lt2 : ∀ x ∈ p2, x.block < W.heap.size := by obtain ⟨m, hm⟩ := k2; exact DataW.trod_lt m _ _ _ hm
  obtain ⟨hs, hl63⟩ : IsBytes W sa len ∧ len ≤ 9223372036854775807 := by obtain ⟨fuel, hf⟩ := h2; exact isBytes_of hf
  obtain ⟨z3, rfl, rfl, rfl, w3⟩ := open_int Ybaf.underlying23 (hval 3 23 v3 rfl rfl) h3
  clear hA0 hV0 hval0
  have hE : W.cell? ⟨0, 0, none⟩ = some (.iface 50 (.pointer (some a0))) := by simpa using World.var?_cell gHeld hv0 0
  have hB0 : 0 < W.heap.size := block_lt_of_cell hE
  have fin : ∀ (e : Ending) (W' : World), (e = .returned (.bool true) ∧ Below W.heap.size W W') →
      ∃ v, e = .returned v ∧ ((OpenSpec.ofChange Rows.lawS2559BFreshSpec).at F.told).post enc Ybaf.prog Ybaf.f3 false true false false W #[.int .u8 z0, .int .u8 z1, .slice sa len cap, .int .u64 z3] v W' := by
    rintro e W' ⟨rfl, bel⟩
    exact ⟨_, rfl, _, _, _, [], _, [.cell 1 0, .cell 0 0], hW', trodAll_mk1 (shut_bool Ybaf.underlying4 _),
      (trodAll_cons_mk (shut_int Ybaf.underlying5 w0) (trodAll_cons_mk (shut_int Ybaf.underlying5 w1) (trodAll_cons_mk (Below.trod laidOut (by kernel_rfl) (of_decide_eq_true (by kernel_rfl)) k2 bel lt2) (trodAll_cons_mk (shut_int Ybaf.underlying23 w3) trodAll_mk0)))),
      vars_read2 enc gProt tProt Ybaf.underlying31 (var_below bel hv1) trivial gHeld tHeld Ybaf.underlying31 (var_below bel hv0) trivial _, bel.frame _, fun h => by cases h⟩
  by_cases hlen : len ≤ 1024
  · obtain ⟨b0, b0'⟩ := bounds_u8 w0
    obtain ⟨b1, b1'⟩ := bounds_u8 w1
    obtain ⟨n0, rfl⟩ := Int.eq_ofNat_of_zero_le b0
    obtain ⟨n1, rfl⟩ := Int.eq_ofNat_of_zero_le b1
    exact (fresh_short n0 n1 (by omega) (by omega) sa len cap z3 a0 W hlen hs hE hB0).mono fin
  · exact (fresh_long z0 z1 sa len cap z3 W hlen hl63).mono fin

theorem fresh_proved : Rows.LawS2559BFreshToldSaid :=
  Claim7.holds_of_told_tied_any_at .later 3 Ybaf.f3 "fmt.Sprintf" ["fmt.errorf"] [] _ _ _ _ _ (by kernel_rfl) rfl rfl rfl laidOut (by kernel_rfl) rfl ⟨rfl, rfl, rfl, rfl, rfl, rfl, rfl⟩ rfl rfl (by kernel_rfl) (by kernel_rfl) Ybaf.func3 (by kernel_rfl)
    (of_decide_eq_true (by kernel_rfl)) (by unfold Func.isWrapper; first | (rw [if_pos (by decide +kernel)]; kernel_rfl) | (rw [if_neg (by decide +kernel)]; exact ⟨rfl, rfl⟩)) stops.symm rfl stopKnobs.symm (by kernel_rfl)
    (by kernel_rfl) (by kernel_rfl) (by kernel_rfl) (by kernel_rfl) (by kernel_rfl) (by kernel_rfl) (by kernel_rfl) (by kernel_rfl) (by kernel_rfl) rfl (by kernel_rfl) rfl rfl
    rfl rfl
    rfl (by kernel_rfl) (by kernel_rfl) (by kernel_rfl) (by decide) (by kernel_rfl) lawS2559BFresh_row_tie
    (OpenClaim.moreEntering_of (by kernel_rfl) (by kernel_rfl) (by kernel_rfl) (by kernel_rfl) (by kernel_rfl) (by kernel_rfl) (by kernel_rfl) (by kernel_rfl) (by kernel_rfl) (by kernel_rfl))
    ⟨_, WideRow.started_initial, quiet _⟩
    (fun os started _ H enc _ => fresh_lifted os started H enc)
#print axioms fresh_proved
end Go.Proofs.YbulkazyyFmt
