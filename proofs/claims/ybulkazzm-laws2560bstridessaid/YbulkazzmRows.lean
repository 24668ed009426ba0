/-
  No cell of these rows narrows 'for every input' (looked for: loops, veiled, ifaces, maps, wideKeys, modest, calm, conditions, laid).
  DERIVED. THE GIVEN ROWS OF THIS SEAT. 4 by the template 'for every input the law returns true; each argument reads behind the call as it read before'; 0 by the template 'total and deterministic' (their statements: YbulkazzmTotals.lean).
  GIVEN WITH THE SEED: the statements are not yours to turn. If you find one false, say at which input.
  Laid BY PROGRAM, IN A SANDBOX (cutbox-rows.mjs): the forced cells as the released guide's own fill.sh prints them over the translation 2a4cd704a77b6fa6… (all of the seat's roots in one cut). By AI agents, Wed Nov 11 2026. No macro, syntax, notation, axiom, sorry.
-/
import Derived.Test.YbulkazzmChecked
import GoSem.Claim
import GoSem.ClaimJoined
import GoSem.ClaimMapViews
import Derived.JoinedTies
import Derived.KernelRfl
namespace Go.Proofs.Ybulkazzm
/- THE CELL 'sum', in the pinned program and in every row, IS THE sha256 OF THE DUMP (.gsa) THAT YbulkazzmProg.lean LOADS. Nothing in Lean hashes anything: it is a label: what it is worth is what the hold of that sum in a sandbox is worth. -/
noncomputable def Yba.pinned : Pinned := { name := "ybulkazzm", sum := "2a4cd704a77b6fa6d1b8936a7f9836b49ae60e2032632f157cf8a42ca22dfee3", checked := Yba.checked }
namespace Rows
def none {H : Type} : Left H := { results := [], args := [] }

/-- 'policy.LawS2560BPlaces': WHATEVER THE INPUT: true; the input reads as it did. -/
def lawS2560BPlacesSpec : ChangeSpec := { name := "lawS2560BPlaces", fn := fun _ => fun
  | [d1, d2, d3, d4] => { results := [.lit (.bool true)], args := [d1, d2, d3, d4] }
  | _ => none }
def lawS2560BPlacesRow : OpenClaim := { program := "ybulkazzm", sum := "2a4cd704a77b6fa6d1b8936a7f9836b49ae60e2032632f157cf8a42ca22dfee3", func := "example.com/evenkeel/evenkeel/policy.LawS2560BPlaces", spec := "lawS2560BPlaces", unfollowed := true, recurses := true, apart := false }
def LawS2560BPlacesSaid : Prop := lawS2560BPlacesRow.holds Yba.pinned (OpenSpec.ofChange lawS2560BPlacesSpec)

/-- ITS FALSE NEIGHBOUR: 'it returns false'. Refute it at one input. -/
def lawS2560BPlacesWrong : ChangeSpec := { name := "lawS2560BPlaces", fn := fun _ => fun
  | [d1, d2, d3, d4] => { results := [.lit (.bool false)], args := [d1, d2, d3, d4] }
  | _ => none }
def LawS2560BPlacesWrongFalsely : Prop := lawS2560BPlacesRow.holds Yba.pinned (OpenSpec.ofChange lawS2560BPlacesWrong)

/-- 'policy.LawS2560BStrides': WHATEVER THE INPUT: true; the input reads as it did. -/
def lawS2560BStridesSpec : ChangeSpec := { name := "lawS2560BStrides", fn := fun _ => fun
  | [d1, d2, d3, d4] => { results := [.lit (.bool true)], args := [d1, d2, d3, d4] }
  | _ => none }
def lawS2560BStridesRow : OpenClaim := { program := "ybulkazzm", sum := "2a4cd704a77b6fa6d1b8936a7f9836b49ae60e2032632f157cf8a42ca22dfee3", func := "example.com/evenkeel/evenkeel/policy.LawS2560BStrides", spec := "lawS2560BStrides", unfollowed := true, recurses := true, apart := false }
def LawS2560BStridesSaid : Prop := lawS2560BStridesRow.holds Yba.pinned (OpenSpec.ofChange lawS2560BStridesSpec)

/-- ITS FALSE NEIGHBOUR: 'it returns false'. Refute it at one input. -/
def lawS2560BStridesWrong : ChangeSpec := { name := "lawS2560BStrides", fn := fun _ => fun
  | [d1, d2, d3, d4] => { results := [.lit (.bool false)], args := [d1, d2, d3, d4] }
  | _ => none }
def LawS2560BStridesWrongFalsely : Prop := lawS2560BStridesRow.holds Yba.pinned (OpenSpec.ofChange lawS2560BStridesWrong)

/-- 'policy.LawS2560CTable': WHATEVER THE INPUT: true; the input reads as it did. -/
def lawS2560CTableSpec : ChangeSpec := { name := "lawS2560CTable", fn := fun _ => fun
  | [d1, d2, d3] => { results := [.lit (.bool true)], args := [d1, d2, d3] }
  | _ => none }
def lawS2560CTableRow : OpenClaim := { program := "ybulkazzm", sum := "2a4cd704a77b6fa6d1b8936a7f9836b49ae60e2032632f157cf8a42ca22dfee3", func := "example.com/evenkeel/evenkeel/policy.LawS2560CTable", spec := "lawS2560CTable", apart := false }
def LawS2560CTableSaid : Prop := lawS2560CTableRow.holds Yba.pinned (OpenSpec.ofChange lawS2560CTableSpec)

/-- ITS FALSE NEIGHBOUR: 'it returns false'. Refute it at one input. -/
def lawS2560CTableWrong : ChangeSpec := { name := "lawS2560CTable", fn := fun _ => fun
  | [d1, d2, d3] => { results := [.lit (.bool false)], args := [d1, d2, d3] }
  | _ => none }
def LawS2560CTableWrongFalsely : Prop := lawS2560CTableRow.holds Yba.pinned (OpenSpec.ofChange lawS2560CTableWrong)

/-- 'policy.LawS2560CEven': WHATEVER THE INPUT: true; the input reads as it did. -/
def lawS2560CEvenSpec : ChangeSpec := { name := "lawS2560CEven", fn := fun _ => fun
  | [d1, d2, d3, d4, d5] => { results := [.lit (.bool true)], args := [d1, d2, d3, d4, d5] }
  | _ => none }
def lawS2560CEvenRow : OpenClaim := { program := "ybulkazzm", sum := "2a4cd704a77b6fa6d1b8936a7f9836b49ae60e2032632f157cf8a42ca22dfee3", func := "example.com/evenkeel/evenkeel/policy.LawS2560CEven", spec := "lawS2560CEven", apart := false }
def LawS2560CEvenSaid : Prop := lawS2560CEvenRow.holds Yba.pinned (OpenSpec.ofChange lawS2560CEvenSpec)

/-- ITS FALSE NEIGHBOUR: 'it returns false'. Refute it at one input. -/
def lawS2560CEvenWrong : ChangeSpec := { name := "lawS2560CEven", fn := fun _ => fun
  | [d1, d2, d3, d4, d5] => { results := [.lit (.bool false)], args := [d1, d2, d3, d4, d5] }
  | _ => none }
def LawS2560CEvenWrongFalsely : Prop := lawS2560CEvenRow.holds Yba.pinned (OpenSpec.ofChange lawS2560CEvenWrong)

end Rows
end Go.Proofs.Ybulkazzm
