/-
  DERIVED. GIVEN WITH THE SEED: THE CARDS: each row of YbulkazyyFmtRows.lean that lists a variable, with what it lists TIED to the program's text (the seventh form; the later family's looks); each row that meets fmt, with fmt's text TOLD by the authors' own Lean function (tested against real Go, not proved from fmt's source: count such statements apart). THE CARD IS WHAT COUNTS. Prove the row's statement (the work); the ties are given (YbulkazyyFmtTie.lean); close each card by the builder's one call (the guide's Derived/Test/ToyasCard.lean, 'card_holds'). Laid BY PROGRAM, IN A SANDBOX (cutbox-door.mjs). By AI agents, Wed Nov 11 2026. No macro, syntax, notation, axiom, sorry.
-/
import Derived.Test.YbulkazyyFmtRows
import GoSem.ClaimSeven
namespace Go.Proofs.YbulkazyyFmt
namespace Rows

/-- THE TOLD AND TIED CARD OF 'estampille.LawS2559BFresh'. -/
def lawS2559BFreshCard : Claim7 := { stood := { row := lawS2559BFreshRow, standIns := [], harness := (true, "4c549c2469f745fde3119b44c05c025df6119ab69accf6ea3ef130140ab95d4d"), looks := true }, told := true, laidByText := true, laidKinds := [.sentinel, .sentinel], laidTests := true, laidLooks := .later, goes := false }
def LawS2559BFreshToldSaid : Prop := Claim7.holds Ybaf.pinned (.plain (OpenSpec.ofChange lawS2559BFreshSpec)) lawS2559BFreshCard
/-- ITS FALSE NEIGHBOUR. Refute it at one input. -/
def LawS2559BFreshToldWrongFalsely : Prop := Claim7.holds Ybaf.pinned (.plain (OpenSpec.ofChange lawS2559BFreshWrong)) lawS2559BFreshCard

/-- THE TOLD AND TIED CARD OF 'estampille.LawS2559BCycle'. -/
def lawS2559BCycleCard : Claim7 := { stood := { row := lawS2559BCycleRow, standIns := [], harness := (true, "4c549c2469f745fde3119b44c05c025df6119ab69accf6ea3ef130140ab95d4d"), looks := true }, told := true, laidByText := true, laidKinds := [.sentinel, .sentinel, .sentinel], laidTests := true, laidLooks := .later, goes := false }
def LawS2559BCycleToldSaid : Prop := Claim7.holds Ybaf.pinned (.plain (OpenSpec.ofChange lawS2559BCycleSpec)) lawS2559BCycleCard
/-- ITS FALSE NEIGHBOUR. Refute it at one input. -/
def LawS2559BCycleToldWrongFalsely : Prop := Claim7.holds Ybaf.pinned (.plain (OpenSpec.ofChange lawS2559BCycleWrong)) lawS2559BCycleCard
end Rows
end Go.Proofs.YbulkazyyFmt
