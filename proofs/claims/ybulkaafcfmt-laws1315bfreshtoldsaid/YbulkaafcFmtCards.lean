/-
  DERIVED. GIVEN WITH THE SEED: THE CARDS: each row of YbulkaafcFmtRows.lean that lists a variable, with what it lists TIED to the program's text (the seventh form; the later family's looks); each row that meets fmt, with fmt's text TOLD by the authors' own Lean function (tested against real Go, not proved from fmt's source: count such statements apart). THE CARD IS WHAT COUNTS. Prove the row's statement (the work); the ties are given (YbulkaafcFmtTie.lean); close each card by the builder's one call (the guide's Derived/Test/ToyasCard.lean, 'card_holds'). Laid BY PROGRAM, IN A SANDBOX (cutbox-door.mjs). By AI agents, Wed Nov 11 2026. No macro, syntax, notation, axiom, sorry.
-/
import Derived.Test.YbulkaafcFmtRows
import GoSem.ClaimSeven
namespace Go.Proofs.YbulkaafcFmt
namespace Rows

/-- THE TOLD CARD OF 'logical.LawS1315BFresh'. -/
def lawS1315BFreshCard : Claim7 := { stood := { row := lawS1315BFreshRow, standIns := [], harness := (true, "4ea9f0e6fe0a32a30155c224b9527a1b133015fdadd507df8d978ea43b07aac7"), looks := false }, told := true, goes := false }
def LawS1315BFreshToldSaid : Prop := Claim7.holds Ybaf.pinned (.plain (OpenSpec.ofChange lawS1315BFreshSpec)) lawS1315BFreshCard
/-- ITS FALSE NEIGHBOUR. Refute it at one input. -/
def LawS1315BFreshToldWrongFalsely : Prop := Claim7.holds Ybaf.pinned (.plain (OpenSpec.ofChange lawS1315BFreshWrong)) lawS1315BFreshCard

/-- THE TOLD CARD OF 'logical.LawS1315BApart'. -/
def lawS1315BApartCard : Claim7 := { stood := { row := lawS1315BApartRow, standIns := [], harness := (true, "4ea9f0e6fe0a32a30155c224b9527a1b133015fdadd507df8d978ea43b07aac7"), looks := false }, told := true, goes := false }
def LawS1315BApartToldSaid : Prop := Claim7.holds Ybaf.pinned (.plain (OpenSpec.ofChange lawS1315BApartSpec)) lawS1315BApartCard
/-- ITS FALSE NEIGHBOUR. Refute it at one input. -/
def LawS1315BApartToldWrongFalsely : Prop := Claim7.holds Ybaf.pinned (.plain (OpenSpec.ofChange lawS1315BApartWrong)) lawS1315BApartCard
end Rows
end Go.Proofs.YbulkaafcFmt
