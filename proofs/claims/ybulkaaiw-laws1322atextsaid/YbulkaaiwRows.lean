/-
  No cell of these rows narrows 'for every input' (looked for: loops, veiled, ifaces, maps, wideKeys, modest, calm, conditions, laid).
  DERIVED. THE GIVEN ROWS OF THIS SEAT. 4 by the template 'for every input the law returns true; each argument reads behind the call as it read before'; 0 by the template 'total and deterministic' (their statements: YbulkaaiwTotals.lean).
  GIVEN WITH THE SEED: the statements are not yours to turn. If you find one false, say at which input.
  Laid BY PROGRAM, IN A SANDBOX (cutbox-rows.mjs): the forced cells as the released guide's own fill.sh prints them over the translation 9b371c8249406411… (all of the seat's roots in one cut). By AI agents, Wed Nov 11 2026. No macro, syntax, notation, axiom, sorry.
-/
import Derived.Test.YbulkaaiwChecked
import GoSem.Claim
import GoSem.ClaimJoined
import GoSem.ClaimMapViews
import Derived.JoinedTies
import Derived.KernelRfl
namespace Go.Proofs.Ybulkaaiw
/- THE CELL 'sum', in the pinned program and in every row, IS THE sha256 OF THE DUMP (.gsa) THAT YbulkaaiwProg.lean LOADS. Nothing in Lean hashes anything: it is a label: what it is worth is what the hold of that sum in a sandbox is worth. -/
noncomputable def Yba.pinned : Pinned := { name := "ybulkaaiw", sum := "9b371c82494064116b2e9fab762ddd52f9fe97f596952f026cf8cc46ba691a72", checked := Yba.checked }
namespace Rows
def none {H : Type} : Left H := { results := [], args := [] }

/-- 'resp.LawS1322AText': WHATEVER THE INPUT: true; the input reads as it did. -/
def lawS1322ATextSpec : ChangeSpec := { name := "lawS1322AText", fn := fun _ => fun
  | [d1, d2, d3] => { results := [.lit (.bool true)], args := [d1, d2, d3] }
  | _ => none }
def lawS1322ATextRow : OpenClaim := { program := "ybulkaaiw", sum := "9b371c82494064116b2e9fab762ddd52f9fe97f596952f026cf8cc46ba691a72", func := "example.com/afterwake/afterwake/internal/resp.LawS1322AText", spec := "lawS1322AText", apart := false }
def LawS1322ATextSaid : Prop := lawS1322ATextRow.holds Yba.pinned (OpenSpec.ofChange lawS1322ATextSpec)

/-- ITS FALSE NEIGHBOUR: 'it returns false'. Refute it at one input. -/
def lawS1322ATextWrong : ChangeSpec := { name := "lawS1322AText", fn := fun _ => fun
  | [d1, d2, d3] => { results := [.lit (.bool false)], args := [d1, d2, d3] }
  | _ => none }
def LawS1322ATextWrongFalsely : Prop := lawS1322ATextRow.holds Yba.pinned (OpenSpec.ofChange lawS1322ATextWrong)

/-- 'resp.LawS1322AWrappers': WHATEVER THE INPUT: true; the input reads as it did. -/
def lawS1322AWrappersSpec : ChangeSpec := { name := "lawS1322AWrappers", fn := fun _ => fun
  | [d1, d2, d3] => { results := [.lit (.bool true)], args := [d1, d2, d3] }
  | _ => none }
def lawS1322AWrappersRow : OpenClaim := { program := "ybulkaaiw", sum := "9b371c82494064116b2e9fab762ddd52f9fe97f596952f026cf8cc46ba691a72", func := "example.com/afterwake/afterwake/internal/resp.LawS1322AWrappers", spec := "lawS1322AWrappers", apart := false }
def LawS1322AWrappersSaid : Prop := lawS1322AWrappersRow.holds Yba.pinned (OpenSpec.ofChange lawS1322AWrappersSpec)

/-- ITS FALSE NEIGHBOUR: 'it returns false'. Refute it at one input. -/
def lawS1322AWrappersWrong : ChangeSpec := { name := "lawS1322AWrappers", fn := fun _ => fun
  | [d1, d2, d3] => { results := [.lit (.bool false)], args := [d1, d2, d3] }
  | _ => none }
def LawS1322AWrappersWrongFalsely : Prop := lawS1322AWrappersRow.holds Yba.pinned (OpenSpec.ofChange lawS1322AWrappersWrong)

/-- 'resp.LawS1322BTable': WHATEVER THE INPUT: true; the input reads as it did. -/
def lawS1322BTableSpec : ChangeSpec := { name := "lawS1322BTable", fn := fun _ => fun
  | [d] => { results := [.lit (.bool true)], args := [d] }
  | _ => none }
def lawS1322BTableRow : OpenClaim := { program := "ybulkaaiw", sum := "9b371c82494064116b2e9fab762ddd52f9fe97f596952f026cf8cc46ba691a72", func := "example.com/afterwake/afterwake/internal/resp.LawS1322BTable", spec := "lawS1322BTable", apart := false }
def LawS1322BTableSaid : Prop := lawS1322BTableRow.holds Yba.pinned (OpenSpec.ofChange lawS1322BTableSpec)

/-- ITS FALSE NEIGHBOUR: 'it returns false'. Refute it at one input. -/
def lawS1322BTableWrong : ChangeSpec := { name := "lawS1322BTable", fn := fun _ => fun
  | [d] => { results := [.lit (.bool false)], args := [d] }
  | _ => none }
def LawS1322BTableWrongFalsely : Prop := lawS1322BTableRow.holds Yba.pinned (OpenSpec.ofChange lawS1322BTableWrong)

/-- 'resp.LawS1322BLowByte': WHATEVER THE INPUT: true; the input reads as it did. -/
def lawS1322BLowByteSpec : ChangeSpec := { name := "lawS1322BLowByte", fn := fun _ => fun
  | [d] => { results := [.lit (.bool true)], args := [d] }
  | _ => none }
def lawS1322BLowByteRow : OpenClaim := { program := "ybulkaaiw", sum := "9b371c82494064116b2e9fab762ddd52f9fe97f596952f026cf8cc46ba691a72", func := "example.com/afterwake/afterwake/internal/resp.LawS1322BLowByte", spec := "lawS1322BLowByte", apart := false }
def LawS1322BLowByteSaid : Prop := lawS1322BLowByteRow.holds Yba.pinned (OpenSpec.ofChange lawS1322BLowByteSpec)

/-- ITS FALSE NEIGHBOUR: 'it returns false'. Refute it at one input. -/
def lawS1322BLowByteWrong : ChangeSpec := { name := "lawS1322BLowByte", fn := fun _ => fun
  | [d] => { results := [.lit (.bool false)], args := [d] }
  | _ => none }
def LawS1322BLowByteWrongFalsely : Prop := lawS1322BLowByteRow.holds Yba.pinned (OpenSpec.ofChange lawS1322BLowByteWrong)

end Rows
end Go.Proofs.Ybulkaaiw
