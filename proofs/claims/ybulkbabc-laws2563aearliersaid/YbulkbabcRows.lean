/-
  No cell of these rows narrows 'for every input' (looked for: loops, veiled, ifaces, maps, wideKeys, modest, calm, conditions, laid).
  DERIVED. THE GIVEN ROWS OF THIS SEAT. 1 by the template 'for every input the law returns true; each argument reads behind the call as it read before'; 0 by the template 'total and deterministic' (their statements: YbulkbabcTotals.lean).
  GIVEN WITH THE SEED: the statements are not yours to turn. If you find one false, say at which input.
  Laid BY PROGRAM, IN A SANDBOX (cutbox-rows.mjs): the forced cells as the released guide's own fill.sh prints them over the translation 5ad46bd875d5d6a4… (all of the seat's roots in one cut). By AI agents, Wed Nov 11 2026. No macro, syntax, notation, axiom, sorry.
-/
import Derived.Test.YbulkbabcChecked
import GoSem.Claim
import GoSem.ClaimJoined
import GoSem.ClaimMapViews
import Derived.JoinedTies
import Derived.KernelRfl
namespace Go.Proofs.Ybulkbabc
/- THE CELL 'sum', in the pinned program and in every row, IS THE sha256 OF THE DUMP (.gsa) THAT YbulkbabcProg.lean LOADS. Nothing in Lean hashes anything: it is a label: what it is worth is what the hold of that sum in a sandbox is worth. -/
noncomputable def Yba.pinned : Pinned := { name := "ybulkbabc", sum := "5ad46bd875d5d6a4a394690070983a1b2c30e87f2ef810377fbef0601cbe8ed3", checked := Yba.checked }
namespace Rows
def none {H : Type} : Left H := { results := [], args := [] }

/-- 'replica.LawS2563AEarlier': WHATEVER THE INPUT: true; the input reads as it did. -/
def lawS2563AEarlierSpec : ChangeSpec := { name := "lawS2563AEarlier", fn := fun _ => fun
  | [d1, d2] => { results := [.lit (.bool true)], args := [d1, d2] }
  | _ => none }
def lawS2563AEarlierRow : OpenClaim := { program := "ybulkbabc", sum := "5ad46bd875d5d6a4a394690070983a1b2c30e87f2ef810377fbef0601cbe8ed3", func := "example.com/tenure/tenure/internal/replica.LawS2563AEarlier", spec := "lawS2563AEarlier", unfollowed := true, recurses := true, apart := false }
def LawS2563AEarlierSaid : Prop := lawS2563AEarlierRow.holds Yba.pinned (OpenSpec.ofChange lawS2563AEarlierSpec)

/-- ITS FALSE NEIGHBOUR: 'it returns false'. Refute it at one input. -/
def lawS2563AEarlierWrong : ChangeSpec := { name := "lawS2563AEarlier", fn := fun _ => fun
  | [d1, d2] => { results := [.lit (.bool false)], args := [d1, d2] }
  | _ => none }
def LawS2563AEarlierWrongFalsely : Prop := lawS2563AEarlierRow.holds Yba.pinned (OpenSpec.ofChange lawS2563AEarlierWrong)

end Rows
end Go.Proofs.Ybulkbabc
