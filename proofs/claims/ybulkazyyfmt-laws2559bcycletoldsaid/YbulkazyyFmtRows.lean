/-
  NARROWER THAN 'FOR EVERY INPUT', by the rows' own cells (each row's printed sentence says how): LawS2559BFresh: ifaces, laid · LawS2559BCycle: ifaces, laid.
  DERIVED. THE GIVEN ROWS OF THIS SEAT. 2 by the template 'for every input the law returns true; each argument reads behind the call as it read before'; 0 by the template 'total and deterministic' (their statements: YbulkazyyFmtTotals.lean).
  GIVEN WITH THE SEED: the statements are not yours to turn. If you find one false, say at which input.
  Laid BY PROGRAM, IN A SANDBOX (cutbox-rows.mjs): the forced cells as the released guide's own fill.sh prints them over the translation ec5814190e6432d9… (all of the seat's roots in one cut). By AI agents, Wed Nov 11 2026. No macro, syntax, notation, axiom, sorry.
-/
import Derived.Test.YbulkazyyFmtChecked
import GoSem.Claim
import GoSem.ClaimJoined
import GoSem.ClaimMapViews
import Derived.JoinedTies
import Derived.KernelRfl
namespace Go.Proofs.YbulkazyyFmt
/- THE CELL 'sum', in the pinned program and in every row, IS THE sha256 OF THE DUMP (.gsa) THAT YbulkazyyFmtProg.lean LOADS. Nothing in Lean hashes anything: it is a label: what it is worth is what the hold of that sum in a sandbox is worth. -/
noncomputable def Ybaf.pinned : Pinned := { name := "ybulkazyyfmt", sum := "ec5814190e6432d97b7bc618761babbe1de0e58957dfb7b69e4a7640385527ca", checked := Ybaf.checked }
namespace Rows
def none {H : Type} : Left H := { results := [], args := [] }

/- WHAT THE LISTED PACKAGE-LEVEL VARIABLES READ AS WHEN THE CALL BEGINS. Each datum BY PROGRAM (the guide's laid-datum.mjs) off the statement by which the dump's own 'gosem.cut.vars' lays the variable. In a bare row this is a premise. The card (YbulkazyyFmtCards.lean) ties it to the program's text. -/
def laid_example_com_estampille_estampille_ErrHeld {H : Type} : DataW H := .iface "*errors.errorString" (.ptr (.agg [.lit (.string [101, 115, 116, 97, 109, 112, 105, 108, 108, 101, 58, 32, 114, 101, 115, 111, 117, 114, 99, 101, 32, 97, 108, 114, 101, 97, 100, 121, 32, 104, 101, 108, 100, 32, 111, 114, 32, 114, 101, 113, 117, 101, 115, 116, 101, 100])]))
def laid_example_com_estampille_estampille_ErrProtocol {H : Type} : DataW H := .iface "*errors.errorString" (.ptr (.agg [.lit (.string [101, 115, 116, 97, 109, 112, 105, 108, 108, 101, 58, 32, 109, 101, 115, 115, 97, 103, 101, 32, 111, 117, 116, 32, 111, 102, 32, 112, 114, 111, 116, 111, 99, 111, 108])]))
def laid_example_com_estampille_estampille_ErrNotHeld {H : Type} : DataW H := .iface "*errors.errorString" (.ptr (.agg [.lit (.string [101, 115, 116, 97, 109, 112, 105, 108, 108, 101, 58, 32, 114, 101, 115, 111, 117, 114, 99, 101, 32, 110, 111, 116, 32, 104, 101, 108, 100])]))

/-- 'estampille.LawS2559BFresh': WHATEVER THE INPUT: true; the input reads as it did. -/
def lawS2559BFreshSpec : ChangeSpec := { name := "lawS2559BFresh", vars := ["example.com/estampille/estampille.ErrProtocol", "example.com/estampille/estampille.ErrHeld"], fn := fun _ => fun
  | [d1, d2, d3, d4, g1, g2] => { results := [.lit (.bool true)], args := [d1, d2, d3, d4], vars := [g1, g2] }
  | _ => none }
def lawS2559BFreshRow : OpenClaim := { program := "ybulkazyyfmt", sum := "ec5814190e6432d97b7bc618761babbe1de0e58957dfb7b69e4a7640385527ca", func := "example.com/estampille/estampille.LawS2559BFresh", spec := "lawS2559BFresh", stops := ["fmt.Sprintf", "fmt.errorf"], inPlace := ["fmt.Sprintf", "fmt.errorf"], named := ["example.com/estampille/estampille.ErrProtocol", "example.com/estampille/estampille.ErrHeld"], ifaces := true, apart := false, laid := [("example.com/estampille/estampille.ErrHeld", laid_example_com_estampille_estampille_ErrHeld), ("example.com/estampille/estampille.ErrProtocol", laid_example_com_estampille_estampille_ErrProtocol)] }
/-- NO THEOREM (fmt's text is open here; it may be false): for the released tool's asking of the row's closed facts alone. THE STATEMENT IS 'LawS2559BFreshToldSaid' (YbulkazyyFmtCards.lean). -/
def LawS2559BFreshFormAsk : Prop := lawS2559BFreshRow.holds Ybaf.pinned (OpenSpec.ofChange lawS2559BFreshSpec)

/-- ITS FALSE NEIGHBOUR: 'it returns false'. Refute it at one input. -/
def lawS2559BFreshWrong : ChangeSpec := { name := "lawS2559BFresh", vars := ["example.com/estampille/estampille.ErrProtocol", "example.com/estampille/estampille.ErrHeld"], fn := fun _ => fun
  | [d1, d2, d3, d4, g1, g2] => { results := [.lit (.bool false)], args := [d1, d2, d3, d4], vars := [g1, g2] }
  | _ => none }
def LawS2559BFreshWrongFormAsk : Prop := lawS2559BFreshRow.holds Ybaf.pinned (OpenSpec.ofChange lawS2559BFreshWrong)

/-- 'estampille.LawS2559BCycle': WHATEVER THE INPUT: true; the input reads as it did. -/
def lawS2559BCycleSpec : ChangeSpec := { name := "lawS2559BCycle", vars := ["example.com/estampille/estampille.ErrProtocol", "example.com/estampille/estampille.ErrHeld", "example.com/estampille/estampille.ErrNotHeld"], fn := fun _ => fun
  | [d1, d2, d3, d4, d5, d6, g1, g2, g3] => { results := [.lit (.bool true)], args := [d1, d2, d3, d4, d5, d6], vars := [g1, g2, g3] }
  | _ => none }
def lawS2559BCycleRow : OpenClaim := { program := "ybulkazyyfmt", sum := "ec5814190e6432d97b7bc618761babbe1de0e58957dfb7b69e4a7640385527ca", func := "example.com/estampille/estampille.LawS2559BCycle", spec := "lawS2559BCycle", stops := ["fmt.Sprintf", "fmt.errorf"], inPlace := ["fmt.Sprintf", "fmt.errorf"], named := ["example.com/estampille/estampille.ErrProtocol", "example.com/estampille/estampille.ErrHeld", "example.com/estampille/estampille.ErrNotHeld"], ifaces := true, apart := false, laid := [("example.com/estampille/estampille.ErrHeld", laid_example_com_estampille_estampille_ErrHeld), ("example.com/estampille/estampille.ErrNotHeld", laid_example_com_estampille_estampille_ErrNotHeld), ("example.com/estampille/estampille.ErrProtocol", laid_example_com_estampille_estampille_ErrProtocol)] }
/-- NO THEOREM (fmt's text is open here; it may be false): for the released tool's asking of the row's closed facts alone. THE STATEMENT IS 'LawS2559BCycleToldSaid' (YbulkazyyFmtCards.lean). -/
def LawS2559BCycleFormAsk : Prop := lawS2559BCycleRow.holds Ybaf.pinned (OpenSpec.ofChange lawS2559BCycleSpec)

/-- ITS FALSE NEIGHBOUR: 'it returns false'. Refute it at one input. -/
def lawS2559BCycleWrong : ChangeSpec := { name := "lawS2559BCycle", vars := ["example.com/estampille/estampille.ErrProtocol", "example.com/estampille/estampille.ErrHeld", "example.com/estampille/estampille.ErrNotHeld"], fn := fun _ => fun
  | [d1, d2, d3, d4, d5, d6, g1, g2, g3] => { results := [.lit (.bool false)], args := [d1, d2, d3, d4, d5, d6], vars := [g1, g2, g3] }
  | _ => none }
def LawS2559BCycleWrongFormAsk : Prop := lawS2559BCycleRow.holds Ybaf.pinned (OpenSpec.ofChange lawS2559BCycleWrong)

end Rows
end Go.Proofs.YbulkazyyFmt
