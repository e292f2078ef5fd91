/-
  No cell of these rows narrows 'for every input' (looked for: loops, veiled, ifaces, maps, wideKeys, modest, calm, conditions, laid).
  DERIVED. THE GIVEN ROWS OF THIS SEAT. 2 by the template 'for every input the law returns true; each argument reads behind the call as it read before'; 0 by the template 'total and deterministic' (their statements: YbulkaabiTotals.lean).
  GIVEN WITH THE SEED: the statements are not yours to turn. If you find one false, say at which input.
  Laid BY PROGRAM, IN A SANDBOX (cutbox-rows.mjs): the forced cells as the released guide's own fill.sh prints them over the translation 0fffa74635c4a56b… (all of the seat's roots in one cut). By AI agents, Wed Nov 11 2026. No macro, syntax, notation, axiom, sorry.
-/
import Derived.Test.YbulkaabiChecked
import GoSem.Claim
import GoSem.ClaimJoined
import GoSem.ClaimMapViews
import Derived.JoinedTies
import Derived.KernelRfl
namespace Go.Proofs.Ybulkaabi
/- THE CELL 'sum', in the pinned program and in every row, IS THE sha256 OF THE DUMP (.gsa) THAT YbulkaabiProg.lean LOADS. Nothing in Lean hashes anything: it is a label: what it is worth is what the hold of that sum in a sandbox is worth. -/
noncomputable def Yba.pinned : Pinned := { name := "ybulkaabi", sum := "0fffa74635c4a56b3d4fdba26edad4fee9f081b0682f016a64e060a74efbe7b8", checked := Yba.checked }
namespace Rows
def none {H : Type} : Left H := { results := [], args := [] }

/-- 'ramiform.LawS1308CSkip': WHATEVER THE INPUT: true; the input reads as it did. -/
def lawS1308CSkipSpec : ChangeSpec := { name := "lawS1308CSkip", fn := fun _ => fun
  | [d1, d2, d3] => { results := [.lit (.bool true)], args := [d1, d2, d3] }
  | _ => none }
def lawS1308CSkipRow : OpenClaim := { program := "ybulkaabi", sum := "0fffa74635c4a56b3d4fdba26edad4fee9f081b0682f016a64e060a74efbe7b8", func := "example.com/ramiform/ramiform.LawS1308CSkip", spec := "lawS1308CSkip", unfollowed := true, recurses := true, apart := false }
def LawS1308CSkipSaid : Prop := lawS1308CSkipRow.holds Yba.pinned (OpenSpec.ofChange lawS1308CSkipSpec)

/-- ITS FALSE NEIGHBOUR: 'it returns false'. Refute it at one input. -/
def lawS1308CSkipWrong : ChangeSpec := { name := "lawS1308CSkip", fn := fun _ => fun
  | [d1, d2, d3] => { results := [.lit (.bool false)], args := [d1, d2, d3] }
  | _ => none }
def LawS1308CSkipWrongFalsely : Prop := lawS1308CSkipRow.holds Yba.pinned (OpenSpec.ofChange lawS1308CSkipWrong)

/-- 'ramiform.LawS1308CNilSkip': WHATEVER THE INPUT: true; the input reads as it did. -/
def lawS1308CNilSkipSpec : ChangeSpec := { name := "lawS1308CNilSkip", fn := fun _ => fun
  | [d1, d2] => { results := [.lit (.bool true)], args := [d1, d2] }
  | _ => none }
def lawS1308CNilSkipRow : OpenClaim := { program := "ybulkaabi", sum := "0fffa74635c4a56b3d4fdba26edad4fee9f081b0682f016a64e060a74efbe7b8", func := "example.com/ramiform/ramiform.LawS1308CNilSkip", spec := "lawS1308CNilSkip", unfollowed := true, recurses := true, apart := false }
def LawS1308CNilSkipSaid : Prop := lawS1308CNilSkipRow.holds Yba.pinned (OpenSpec.ofChange lawS1308CNilSkipSpec)

/-- ITS FALSE NEIGHBOUR: 'it returns false'. Refute it at one input. -/
def lawS1308CNilSkipWrong : ChangeSpec := { name := "lawS1308CNilSkip", fn := fun _ => fun
  | [d1, d2] => { results := [.lit (.bool false)], args := [d1, d2] }
  | _ => none }
def LawS1308CNilSkipWrongFalsely : Prop := lawS1308CNilSkipRow.holds Yba.pinned (OpenSpec.ofChange lawS1308CNilSkipWrong)

end Rows
end Go.Proofs.Ybulkaabi
