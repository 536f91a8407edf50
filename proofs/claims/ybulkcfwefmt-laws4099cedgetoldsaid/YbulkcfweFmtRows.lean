/-
  No cell of these rows narrows 'for every input' (looked for: loops, veiled, ifaces, maps, wideKeys, modest, calm, conditions, laid).
  DERIVED. THE GIVEN ROWS OF THIS SEAT. 3 by the template 'for every input the law returns true; each argument reads behind the call as it read before'; 0 by the template 'total and deterministic' (their statements: YbulkcfweFmtTotals.lean).
  GIVEN WITH THE SEED: the statements are not yours to turn. If you find one false, say at which input.
  Laid BY PROGRAM, IN A SANDBOX (cutbox-rows.mjs): the forced cells as the released guide's own fill.sh prints them over the translation 5efb8c798db20746… (all of the seat's roots in one cut). By AI agents, Wed Nov 11 2026. No macro, syntax, notation, axiom, sorry.
-/
import Derived.Test.YbulkcfweFmtChecked
import GoSem.Claim
import GoSem.ClaimJoined
import GoSem.ClaimMapViews
import Derived.JoinedTies
import Derived.KernelRfl
namespace Go.Proofs.YbulkcfweFmt
/- THE CELL 'sum', in the pinned program and in every row, IS THE sha256 OF THE DUMP (.gsa) THAT YbulkcfweFmtProg.lean LOADS. Nothing in Lean hashes anything: it is a label: what it is worth is what the hold of that sum in a sandbox is worth. -/
noncomputable def Ybaf.pinned : Pinned := { name := "ybulkcfwefmt", sum := "5efb8c798db20746d956e1c7393e21e17adece7c222909510435c688e6cbaffe", checked := Ybaf.checked }
namespace Rows
def none {H : Type} : Left H := { results := [], args := [] }

/-- 'engine.LawS4099CAgrees': WHATEVER THE INPUT: true; the input reads as it did. -/
def lawS4099CAgreesSpec : ChangeSpec := { name := "lawS4099CAgrees", fn := fun _ => fun
  | [d1, d2, d3] => { results := [.lit (.bool true)], args := [d1, d2, d3] }
  | _ => none }
def lawS4099CAgreesRow : OpenClaim := { program := "ybulkcfwefmt", sum := "5efb8c798db20746d956e1c7393e21e17adece7c222909510435c688e6cbaffe", func := "example.com/gapwise/gapwise/engine.LawS4099CAgrees", spec := "lawS4099CAgrees", stops := ["fmt.errorf"], inPlace := ["fmt.errorf"], apart := false }
/-- NO THEOREM (fmt's text is open here; it may be false): for the released tool's asking of the row's closed facts alone. THE STATEMENT IS 'LawS4099CAgreesToldSaid' (YbulkcfweFmtCards.lean). -/
def LawS4099CAgreesFormAsk : Prop := lawS4099CAgreesRow.holds Ybaf.pinned (OpenSpec.ofChange lawS4099CAgreesSpec)

/-- ITS FALSE NEIGHBOUR: 'it returns false'. Refute it at one input. -/
def lawS4099CAgreesWrong : ChangeSpec := { name := "lawS4099CAgrees", fn := fun _ => fun
  | [d1, d2, d3] => { results := [.lit (.bool false)], args := [d1, d2, d3] }
  | _ => none }
def LawS4099CAgreesWrongFormAsk : Prop := lawS4099CAgreesRow.holds Ybaf.pinned (OpenSpec.ofChange lawS4099CAgreesWrong)

/-- 'engine.LawS4099CSum': WHATEVER THE INPUT: true; the input reads as it did. -/
def lawS4099CSumSpec : ChangeSpec := { name := "lawS4099CSum", fn := fun _ => fun
  | [d1, d2, d3] => { results := [.lit (.bool true)], args := [d1, d2, d3] }
  | _ => none }
def lawS4099CSumRow : OpenClaim := { program := "ybulkcfwefmt", sum := "5efb8c798db20746d956e1c7393e21e17adece7c222909510435c688e6cbaffe", func := "example.com/gapwise/gapwise/engine.LawS4099CSum", spec := "lawS4099CSum", stops := ["fmt.errorf"], inPlace := ["fmt.errorf"], apart := false }
/-- NO THEOREM (fmt's text is open here; it may be false): for the released tool's asking of the row's closed facts alone. THE STATEMENT IS 'LawS4099CSumToldSaid' (YbulkcfweFmtCards.lean). -/
def LawS4099CSumFormAsk : Prop := lawS4099CSumRow.holds Ybaf.pinned (OpenSpec.ofChange lawS4099CSumSpec)

/-- ITS FALSE NEIGHBOUR: 'it returns false'. Refute it at one input. -/
def lawS4099CSumWrong : ChangeSpec := { name := "lawS4099CSum", fn := fun _ => fun
  | [d1, d2, d3] => { results := [.lit (.bool false)], args := [d1, d2, d3] }
  | _ => none }
def LawS4099CSumWrongFormAsk : Prop := lawS4099CSumRow.holds Ybaf.pinned (OpenSpec.ofChange lawS4099CSumWrong)

/-- 'engine.LawS4099CEdge': WHATEVER THE INPUT: true; the input reads as it did. -/
def lawS4099CEdgeSpec : ChangeSpec := { name := "lawS4099CEdge", fn := fun _ => fun
  | [d1, d2, d3] => { results := [.lit (.bool true)], args := [d1, d2, d3] }
  | _ => none }
def lawS4099CEdgeRow : OpenClaim := { program := "ybulkcfwefmt", sum := "5efb8c798db20746d956e1c7393e21e17adece7c222909510435c688e6cbaffe", func := "example.com/gapwise/gapwise/engine.LawS4099CEdge", spec := "lawS4099CEdge", stops := ["fmt.errorf"], inPlace := ["fmt.errorf"], apart := false }
/-- NO THEOREM (fmt's text is open here; it may be false): for the released tool's asking of the row's closed facts alone. THE STATEMENT IS 'LawS4099CEdgeToldSaid' (YbulkcfweFmtCards.lean). -/
def LawS4099CEdgeFormAsk : Prop := lawS4099CEdgeRow.holds Ybaf.pinned (OpenSpec.ofChange lawS4099CEdgeSpec)

/-- ITS FALSE NEIGHBOUR: 'it returns false'. Refute it at one input. -/
def lawS4099CEdgeWrong : ChangeSpec := { name := "lawS4099CEdge", fn := fun _ => fun
  | [d1, d2, d3] => { results := [.lit (.bool false)], args := [d1, d2, d3] }
  | _ => none }
def LawS4099CEdgeWrongFormAsk : Prop := lawS4099CEdgeRow.holds Ybaf.pinned (OpenSpec.ofChange lawS4099CEdgeWrong)

end Rows
end Go.Proofs.YbulkcfweFmt
