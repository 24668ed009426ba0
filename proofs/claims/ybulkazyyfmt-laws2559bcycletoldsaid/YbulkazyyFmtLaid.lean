/-
  What the listed variables give the walks, and closed facts that both cards of this seat want.
-/
import Derived.Test.YbulkazyyFmtFresh
import Derived.Test.YbulkazyyFmtTie
import Derived.Test.YbulkazyyFmtCards
import Derived.ProofKit
import Derived.OpenShut
import Derived.LaidMore
import Derived.MakeChecks
import Derived.Stop.LaidErr
import Derived.Stop.JoinedTold
import Derived.Deep.DeepWitnessRef
import Derived.SevenTiedAt
namespace Go.Proofs.YbulkazyyFmt
open Go.ChangeShapes Go.WideShapes Go.ChangeAt Go.RowKit

theorem own : ownKnob Ybaf.prog.godebug = none := by kernel_rfl
theorem laidOut : laidOutB Ybaf.pinned.checked.prog = true := by kernel_rfl
theorem stops : Ybaf.pinned.checked.prog.stops = ["fmt.Sprintf", "fmt.errorf"] := by kernel_rfl
theorem stopKnobs : Ybaf.pinned.checked.prog.stopKnobs = [] := by kernel_rfl
theorem quiet (os : Os) : Stop.quiet Ybaf.pinned.checked.prog os := by
  intro k hk
  rw [stopKnobs] at hk
  cases hk

-- the variables' names, and the type's name, off the given rows
abbrev nProt : String := Rows.lawS2559BFreshSpec.vars.getD 0 ""
abbrev nHeld : String := Rows.lawS2559BFreshSpec.vars.getD 1 ""
abbrev nNot : String := Rows.lawS2559BCycleSpec.vars.getD 2 ""
abbrev nErr : String := match (Rows.laid_example_com_estampille_estampille_ErrHeld : DataW Unit) with | .iface n _ => n | _ => ""
theorem gHeld : Ybaf.prog.globalNamed nHeld = some 0 := by kernel_rfl
theorem gProt : Ybaf.prog.globalNamed nProt = some 1 := by kernel_rfl
theorem gNot : Ybaf.prog.globalNamed nNot = some 2 := by kernel_rfl
theorem tHeld : (Ybaf.prog.globals[0]?).map (·.type) = some 31 := by kernel_rfl
theorem tProt : (Ybaf.prog.globals[1]?).map (·.type) = some 31 := by kernel_rfl
theorem tNot : (Ybaf.prog.globals[2]?).map (·.type) = some 31 := by kernel_rfl
theorem cells52 : Ybaf.prog.cellsOf 52 = 1 := by kernel_rfl
theorem cells9 : Ybaf.prog.cellsOf 9 = 1 := by kernel_rfl
theorem row50 (u : TypeId) (h : Ybaf.prog.typeName? 3 u = some nErr) : u = 50 := by
  refine typeName_ptr_named (P := Ybaf.prog) (nm := "errors.errorString") (tp := 50) (Eq.trans (congrArg (fun s => (List.range Ybaf.prog.types.size).all fun u => Ybaf.prog.typeName? 3 u != some s || u == 50) (?_ : _ = nErr)) (by kernel_rfl)) (by kernel_rfl) (by decide) u (h.trans (congrArg some ?_))
  · decide
  · decide

theorem fresh_door (os : Os) (args : Array Value) : laidMetH Ybaf.prog Rows.lawS2559BFreshRow.laid ((World.doorLaid Ybaf.prog 66 os).forCall (fun _ _ => 0) ⟨#[], args, []⟩).memory :=
  laidMetH_of_parts3 (fuel := 8) (laidMet_of_run' 8 (by kernel_rfl) (by kernel_rfl)) (by kernel_rfl) (by kernel_rfl)
theorem cycle_door (os : Os) (args : Array Value) : laidMetH Ybaf.prog Rows.lawS2559BCycleRow.laid ((World.doorLaid Ybaf.prog 66 os).forCall (fun _ _ => 0) ⟨#[], args, []⟩).memory :=
  laidMetH_of_parts3 (fuel := 8) (laidMet_of_run' 8 (by kernel_rfl) (by kernel_rfl)) (by kernel_rfl) (by kernel_rfl)

/-- What Fresh's list gives: both variables hold a pointer to an error. -/
theorem fresh_of_laid {W : World} (h : laidMetH Ybaf.prog Rows.lawS2559BFreshRow.laid W) :
    ∃ a0 a1 : Addr, W.var? Ybaf.prog nHeld = some #[.iface 50 (.pointer (some a0))] ∧ W.var? Ybaf.prog nProt = some #[.iface 50 (.pointer (some a1))] := by
  rw [MakeChecks.laidMetH_plain _ _ _ (by kernel_rfl)] at h
  have h' : laidMet Ybaf.prog [(nHeld, Rows.laid_example_com_estampille_estampille_ErrHeld), (nProt, Rows.laid_example_com_estampille_estampille_ErrProtocol)] W := h
  obtain ⟨a0, _, hv0, _⟩ := laid_sentinel h' gHeld tHeld Ybaf.underlying31 row50 Ybaf.underlying50 Ybaf.underlying52 rfl rfl Ybaf.underlying9 cells52 cells9
  obtain ⟨a1, _, hv1, _⟩ := laid_sentinel h'.tail gProt tProt Ybaf.underlying31 row50 Ybaf.underlying50 Ybaf.underlying52 rfl rfl Ybaf.underlying9 cells52 cells9
  exact ⟨a0, a1, hv0, hv1⟩
theorem cycle_of_laid {W : World} (h : laidMetH Ybaf.prog Rows.lawS2559BCycleRow.laid W) :
    ∃ a0 a1 a2 : Addr, W.var? Ybaf.prog nHeld = some #[.iface 50 (.pointer (some a0))] ∧ W.var? Ybaf.prog nProt = some #[.iface 50 (.pointer (some a1))] ∧ W.var? Ybaf.prog nNot = some #[.iface 50 (.pointer (some a2))] := by
  rw [MakeChecks.laidMetH_plain _ _ _ (by kernel_rfl)] at h
  have h' : laidMet Ybaf.prog [(nHeld, Rows.laid_example_com_estampille_estampille_ErrHeld), (nNot, Rows.laid_example_com_estampille_estampille_ErrNotHeld), (nProt, Rows.laid_example_com_estampille_estampille_ErrProtocol)] W := h
  obtain ⟨a0, _, hv0, _⟩ := laid_sentinel h' gHeld tHeld Ybaf.underlying31 row50 Ybaf.underlying50 Ybaf.underlying52 rfl rfl Ybaf.underlying9 cells52 cells9
  obtain ⟨a2, _, hv2, _⟩ := laid_sentinel h'.tail gNot tNot Ybaf.underlying31 row50 Ybaf.underlying50 Ybaf.underlying52 rfl rfl Ybaf.underlying9 cells52 cells9
  obtain ⟨a1, _, hv1, _⟩ := laid_sentinel h'.tail.tail gProt tProt Ybaf.underlying31 row50 Ybaf.underlying50 Ybaf.underlying52 rfl rfl Ybaf.underlying9 cells52 cells9
  exact ⟨a0, a1, a2, hv0, hv1, hv2⟩

/-- A variable holds what it held, below a 'Below'. -/
theorem var_below {W w' : World} (h : Below W.heap.size W w') {n : String} {cs : Array Value} (hv : W.var? Ybaf.prog n = some cs) : w'.var? Ybaf.prog n = some cs := by
  unfold World.var? at hv ⊢
  cases hg : Ybaf.prog.globalNamed n with
  | none => simp [hg] at hv
  | some g =>
    simp only [hg, Option.bind_some] at hv ⊢
    have hlt : g < W.heap.size := by
      rcases Nat.lt_or_ge g W.heap.size with h' | h'
      · exact h'
      · simp [Array.getElem?_eq_none h'] at hv
    rw [h.block g hlt]
    exact hv

/-- From a slice of bytes that came in to what the walks are told. -/
theorem isBytes_of {H : Type} {enc : TypeId × Value → H} {W : World} {a : Option Addr} {len cap fuel : Nat} {x : DataW H × List MemPlace}
    (h : DataW.trod enc Ybaf.prog W 0 (fun _ => true) true fuel 22 (Value.slice a len cap).cells.toList = some x) : IsBytes W a len ∧ len ≤ 9223372036854775807 := by
  rcases open_ints Ybaf.underlying22 Ybaf.underlying5 (by kernel_rfl) h with ⟨hcs, _⟩ | ⟨p, l, c, zs, hcs, _, hl, hm, hz, _, hcell, hwz⟩
  · simp [Value.cells] at hcs
    obtain ⟨rfl, rfl, rfl⟩ := hcs
    exact ⟨.inl rfl, by omega⟩
  · simp [Value.cells] at hcs
    obtain ⟨rfl, rfl, rfl⟩ := hcs
    unfold maxLen at hm
    refine ⟨?_, by omega⟩
    by_cases h0 : len = 0
    · exact .inl h0
    · simp at hz
      obtain ⟨b, off, rfl, hc⟩ := ints_at hcell (by omega)
      refine .inr ⟨b, off, zs.map Int.toNat, rfl, ?_, fun i hi => ?_, fun i => ?_⟩
      · exact block_lt_of_cell (hc 0 (by omega))
      · have hb := range_u8 hwz i
        rw [hc i (by omega)]
        have hi' : i < zs.length := by omega
        simp [hi'] at hb ⊢
        omega
      · have hb := range_u8 hwz i
        simp
        cases hq : zs[i]? with
        | none => simp
        | some q => rw [hq] at hb; simp at hb ⊢; omega
end Go.Proofs.YbulkazyyFmt
