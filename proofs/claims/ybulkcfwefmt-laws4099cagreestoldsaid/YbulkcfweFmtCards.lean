/-
  DERIVED. GIVEN WITH THE SEED: THE CARDS: each row of YbulkcfweFmtRows.lean that lists a variable, with what it lists TIED to the program's text (the seventh form; the later family's looks); each row that meets fmt, with fmt's text TOLD by the authors' own Lean function (tested against real Go, not proved from fmt's source: count such statements apart). THE CARD IS WHAT COUNTS. Prove the row's statement (the work); the ties are given (YbulkcfweFmtTie.lean); close each card by the builder's one call (the guide's Derived/Test/ToyasCard.lean, 'card_holds'). Laid BY PROGRAM, IN A SANDBOX (cutbox-door.mjs). By AI agents, Wed Nov 11 2026. No macro, syntax, notation, axiom, sorry.
-/
import Derived.Test.YbulkcfweFmtRows
import GoSem.ClaimSeven
namespace Go.Proofs.YbulkcfweFmt
namespace Rows

/-- THE TOLD CARD OF 'engine.LawS4099CAgrees'. -/
def lawS4099CAgreesCard : Claim7 := { stood := { row := lawS4099CAgreesRow, standIns := [], harness := (true, "f11162e3b39f8d2b30a21c3e50c6ece3334a3ecf9732ec84231ef56757dc1d7b"), looks := false }, told := true, goes := false }
def LawS4099CAgreesToldSaid : Prop := Claim7.holds Ybaf.pinned (.plain (OpenSpec.ofChange lawS4099CAgreesSpec)) lawS4099CAgreesCard
/-- ITS FALSE NEIGHBOUR. Refute it at one input. -/
def LawS4099CAgreesToldWrongFalsely : Prop := Claim7.holds Ybaf.pinned (.plain (OpenSpec.ofChange lawS4099CAgreesWrong)) lawS4099CAgreesCard

/-- THE TOLD CARD OF 'engine.LawS4099CSum'. -/
def lawS4099CSumCard : Claim7 := { stood := { row := lawS4099CSumRow, standIns := [], harness := (true, "f11162e3b39f8d2b30a21c3e50c6ece3334a3ecf9732ec84231ef56757dc1d7b"), looks := false }, told := true, goes := false }
def LawS4099CSumToldSaid : Prop := Claim7.holds Ybaf.pinned (.plain (OpenSpec.ofChange lawS4099CSumSpec)) lawS4099CSumCard
/-- ITS FALSE NEIGHBOUR. Refute it at one input. -/
def LawS4099CSumToldWrongFalsely : Prop := Claim7.holds Ybaf.pinned (.plain (OpenSpec.ofChange lawS4099CSumWrong)) lawS4099CSumCard

/-- THE TOLD CARD OF 'engine.LawS4099CEdge'. -/
def lawS4099CEdgeCard : Claim7 := { stood := { row := lawS4099CEdgeRow, standIns := [], harness := (true, "f11162e3b39f8d2b30a21c3e50c6ece3334a3ecf9732ec84231ef56757dc1d7b"), looks := false }, told := true, goes := false }
def LawS4099CEdgeToldSaid : Prop := Claim7.holds Ybaf.pinned (.plain (OpenSpec.ofChange lawS4099CEdgeSpec)) lawS4099CEdgeCard
/-- ITS FALSE NEIGHBOUR. Refute it at one input. -/
def LawS4099CEdgeToldWrongFalsely : Prop := Claim7.holds Ybaf.pinned (.plain (OpenSpec.ofChange lawS4099CEdgeWrong)) lawS4099CEdgeCard
end Rows
end Go.Proofs.YbulkcfweFmt
