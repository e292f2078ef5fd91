/-
  No cell of these rows narrows 'for every input' (looked for: loops, veiled, ifaces, maps, wideKeys, modest, calm, conditions, laid).
  DERIVED. THE GIVEN ROWS OF THIS SEAT. 2 by the template 'for every input the law returns true; each argument reads behind the call as it read before'; 0 by the template 'total and deterministic' (their statements: YbulkaafcFmtTotals.lean).
  GIVEN WITH THE SEED: the statements are not yours to turn. If you find one false, say at which input.
  Laid BY PROGRAM, IN A SANDBOX (cutbox-rows.mjs): the forced cells as the released guide's own fill.sh prints them over the translation 75c6e915aca701b3… (all of the seat's roots in one cut). By AI agents, Wed Nov 11 2026. No macro, syntax, notation, axiom, sorry.
-/
import Derived.Test.YbulkaafcFmtChecked
import GoSem.Claim
import GoSem.ClaimJoined
import GoSem.ClaimMapViews
import Derived.JoinedTies
import Derived.KernelRfl
namespace Go.Proofs.YbulkaafcFmt
/- THE CELL 'sum', in the pinned program and in every row, IS THE sha256 OF THE DUMP (.gsa) THAT YbulkaafcFmtProg.lean LOADS. Nothing in Lean hashes anything: it is a label: what it is worth is what the hold of that sum in a sandbox is worth. -/
noncomputable def Ybaf.pinned : Pinned := { name := "ybulkaafcfmt", sum := "75c6e915aca701b361815c6dceafd14471ac0fe99c4e10d5ad343aec0755f45f", checked := Ybaf.checked }
namespace Rows
def none {H : Type} : Left H := { results := [], args := [] }

/-- 'logical.LawS1315BFresh': WHATEVER THE INPUT: true; the input reads as it did. -/
def lawS1315BFreshSpec : ChangeSpec := { name := "lawS1315BFresh", fn := fun _ => fun
  | [d1, d2] => { results := [.lit (.bool true)], args := [d1, d2] }
  | _ => none }
def lawS1315BFreshRow : OpenClaim := { program := "ybulkaafcfmt", sum := "75c6e915aca701b361815c6dceafd14471ac0fe99c4e10d5ad343aec0755f45f", func := "example.com/yuste/yuste/pkg/logical.LawS1315BFresh", spec := "lawS1315BFresh", stops := ["fmt.Sprintf"], inPlace := ["fmt.Sprintf"], apart := false }
/-- NO THEOREM (fmt's text is open here; it may be false): for the released tool's asking of the row's closed facts alone. THE STATEMENT IS 'LawS1315BFreshToldSaid' (YbulkaafcFmtCards.lean). -/
def LawS1315BFreshFormAsk : Prop := lawS1315BFreshRow.holds Ybaf.pinned (OpenSpec.ofChange lawS1315BFreshSpec)

/-- ITS FALSE NEIGHBOUR: 'it returns false'. Refute it at one input. -/
def lawS1315BFreshWrong : ChangeSpec := { name := "lawS1315BFresh", fn := fun _ => fun
  | [d1, d2] => { results := [.lit (.bool false)], args := [d1, d2] }
  | _ => none }
def LawS1315BFreshWrongFormAsk : Prop := lawS1315BFreshRow.holds Ybaf.pinned (OpenSpec.ofChange lawS1315BFreshWrong)

/-- 'logical.LawS1315BApart': WHATEVER THE INPUT: true; the input reads as it did. -/
def lawS1315BApartSpec : ChangeSpec := { name := "lawS1315BApart", fn := fun _ => fun
  | [d1, d2] => { results := [.lit (.bool true)], args := [d1, d2] }
  | _ => none }
def lawS1315BApartRow : OpenClaim := { program := "ybulkaafcfmt", sum := "75c6e915aca701b361815c6dceafd14471ac0fe99c4e10d5ad343aec0755f45f", func := "example.com/yuste/yuste/pkg/logical.LawS1315BApart", spec := "lawS1315BApart", stops := ["fmt.Sprintf"], inPlace := ["fmt.Sprintf"], apart := false }
/-- NO THEOREM (fmt's text is open here; it may be false): for the released tool's asking of the row's closed facts alone. THE STATEMENT IS 'LawS1315BApartToldSaid' (YbulkaafcFmtCards.lean). -/
def LawS1315BApartFormAsk : Prop := lawS1315BApartRow.holds Ybaf.pinned (OpenSpec.ofChange lawS1315BApartSpec)

/-- ITS FALSE NEIGHBOUR: 'it returns false'. Refute it at one input. -/
def lawS1315BApartWrong : ChangeSpec := { name := "lawS1315BApart", fn := fun _ => fun
  | [d1, d2] => { results := [.lit (.bool false)], args := [d1, d2] }
  | _ => none }
def LawS1315BApartWrongFormAsk : Prop := lawS1315BApartRow.holds Ybaf.pinned (OpenSpec.ofChange lawS1315BApartWrong)

end Rows
end Go.Proofs.YbulkaafcFmt
