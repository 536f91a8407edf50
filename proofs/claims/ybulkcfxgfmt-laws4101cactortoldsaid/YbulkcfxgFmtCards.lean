/-
  DERIVED. GIVEN WITH THE SEED: THE CARDS: each row of YbulkcfxgFmtRows.lean that lists a variable, with what it lists TIED to the program's text (the seventh form; the later family's looks); each row that meets fmt, with fmt's text TOLD by the authors' own Lean function (tested against real Go, not proved from fmt's source: count such statements apart). THE CARD IS WHAT COUNTS. Prove the row's statement (the work); the ties are given (YbulkcfxgFmtTie.lean); close each card by the builder's one call (the guide's Derived/Test/ToyasCard.lean, 'card_holds'). Laid BY PROGRAM, IN A SANDBOX (cutbox-door.mjs). By AI agents, Wed Nov 11 2026. No macro, syntax, notation, axiom, sorry.
-/
import Derived.Test.YbulkcfxgFmtRows
import GoSem.ClaimSeven
namespace Go.Proofs.YbulkcfxgFmt
namespace Rows

/-- THE TOLD CARD OF 'replay.LawS4101CActor'. -/
def lawS4101CActorCard : Claim7 := { stood := { row := lawS4101CActorRow, standIns := [], harness := (true, "5cdd63c66165370d3c2acaf1abcb464da233c81d497c9618efac076bcb54fdee"), looks := false }, told := true, goes := false }
def LawS4101CActorToldSaid : Prop := Claim7.holds Ybaf.pinned (.plain (OpenSpec.ofChange lawS4101CActorSpec)) lawS4101CActorCard
/-- ITS FALSE NEIGHBOUR. Refute it at one input. -/
def LawS4101CActorToldWrongFalsely : Prop := Claim7.holds Ybaf.pinned (.plain (OpenSpec.ofChange lawS4101CActorWrong)) lawS4101CActorCard
end Rows
end Go.Proofs.YbulkcfxgFmt
