/-
  No cell of these rows narrows 'for every input' (looked for: loops, veiled, ifaces, maps, wideKeys, modest, calm, conditions, laid).
  DERIVED. THE GIVEN ROWS OF THIS SEAT. 1 by the template 'for every input the law returns true; each argument reads behind the call as it read before'; 0 by the template 'total and deterministic' (their statements: YbulkaafcTotals.lean).
  GIVEN WITH THE SEED: the statements are not yours to turn. If you find one false, say at which input.
  Laid BY PROGRAM, IN A SANDBOX (cutbox-rows.mjs): the forced cells as the released guide's own fill.sh prints them over the translation 8dfc6b412952628d… (all of the seat's roots in one cut). By AI agents, Wed Nov 11 2026. No macro, syntax, notation, axiom, sorry.
-/
import Derived.Test.YbulkaafcChecked
import GoSem.Claim
import GoSem.ClaimJoined
import GoSem.ClaimMapViews
import Derived.JoinedTies
import Derived.KernelRfl
namespace Go.Proofs.Ybulkaafc
/- THE CELL 'sum', in the pinned program and in every row, IS THE sha256 OF THE DUMP (.gsa) THAT YbulkaafcProg.lean LOADS. Nothing in Lean hashes anything: it is a label: what it is worth is what the hold of that sum in a sandbox is worth. -/
noncomputable def Yba.pinned : Pinned := { name := "ybulkaafc", sum := "8dfc6b412952628d932dfafe89e0b8e856334754886ea88086ef54755249aed2", checked := Yba.checked }
namespace Rows
def none {H : Type} : Left H := { results := [], args := [] }

/-- 'clock.LawS1315ASegmentAt': WHATEVER THE INPUT: true; the input reads as it did. -/
def lawS1315ASegmentAtSpec : ChangeSpec := { name := "lawS1315ASegmentAt", fn := fun _ => fun
  | [d1, d2, d3, d4] => { results := [.lit (.bool true)], args := [d1, d2, d3, d4] }
  | _ => none }
def lawS1315ASegmentAtRow : OpenClaim := { program := "ybulkaafc", sum := "8dfc6b412952628d932dfafe89e0b8e856334754886ea88086ef54755249aed2", func := "example.com/yuste/yuste/pkg/clock.LawS1315ASegmentAt", spec := "lawS1315ASegmentAt", unfollowed := true, recurses := true, apart := false }
def LawS1315ASegmentAtSaid : Prop := lawS1315ASegmentAtRow.holds Yba.pinned (OpenSpec.ofChange lawS1315ASegmentAtSpec)

/-- ITS FALSE NEIGHBOUR: 'it returns false'. Refute it at one input. -/
def lawS1315ASegmentAtWrong : ChangeSpec := { name := "lawS1315ASegmentAt", fn := fun _ => fun
  | [d1, d2, d3, d4] => { results := [.lit (.bool false)], args := [d1, d2, d3, d4] }
  | _ => none }
def LawS1315ASegmentAtWrongFalsely : Prop := lawS1315ASegmentAtRow.holds Yba.pinned (OpenSpec.ofChange lawS1315ASegmentAtWrong)

end Rows
end Go.Proofs.Ybulkaafc
