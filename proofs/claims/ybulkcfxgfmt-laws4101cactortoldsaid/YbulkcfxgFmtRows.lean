/-
  No cell of these rows narrows 'for every input' (looked for: loops, veiled, ifaces, maps, wideKeys, modest, calm, conditions, laid).
  DERIVED. THE GIVEN ROWS OF THIS SEAT. 1 by the template 'for every input the law returns true; each argument reads behind the call as it read before'; 0 by the template 'total and deterministic' (their statements: YbulkcfxgFmtTotals.lean).
  GIVEN WITH THE SEED: the statements are not yours to turn. If you find one false, say at which input.
  Laid BY PROGRAM, IN A SANDBOX (cutbox-rows.mjs): the forced cells as the released guide's own fill.sh prints them over the translation 8c3e29ff44c81bac… (all of the seat's roots in one cut). By AI agents, Wed Nov 11 2026. No macro, syntax, notation, axiom, sorry.
-/
import Derived.Test.YbulkcfxgFmtChecked
import GoSem.Claim
import GoSem.ClaimJoined
import GoSem.ClaimMapViews
import Derived.JoinedTies
import Derived.KernelRfl
namespace Go.Proofs.YbulkcfxgFmt
/- THE CELL 'sum', in the pinned program and in every row, IS THE sha256 OF THE DUMP (.gsa) THAT YbulkcfxgFmtProg.lean LOADS. Nothing in Lean hashes anything: it is a label: what it is worth is what the hold of that sum in a sandbox is worth. -/
noncomputable def Ybaf.pinned : Pinned := { name := "ybulkcfxgfmt", sum := "8c3e29ff44c81bac3c7e0298ff5c7766fd7ce63c3d7951365223c863c2258c13", checked := Ybaf.checked }
namespace Rows
def none {H : Type} : Left H := { results := [], args := [] }

/-- 'replay.LawS4101CActor': WHATEVER THE INPUT: true; the input reads as it did. -/
def lawS4101CActorSpec : ChangeSpec := { name := "lawS4101CActor", fn := fun _ => fun
  | [d1, d2, d3, d4] => { results := [.lit (.bool true)], args := [d1, d2, d3, d4] }
  | _ => none }
def lawS4101CActorRow : OpenClaim := { program := "ybulkcfxgfmt", sum := "8c3e29ff44c81bac3c7e0298ff5c7766fd7ce63c3d7951365223c863c2258c13", func := "example.com/diffclock/diffclock/internal/replay.LawS4101CActor", spec := "lawS4101CActor", stops := ["fmt.errorf"], inPlace := ["fmt.errorf"], apart := false }
/-- NO THEOREM (fmt's text is open here; it may be false): for the released tool's asking of the row's closed facts alone. THE STATEMENT IS 'LawS4101CActorToldSaid' (YbulkcfxgFmtCards.lean). -/
def LawS4101CActorFormAsk : Prop := lawS4101CActorRow.holds Ybaf.pinned (OpenSpec.ofChange lawS4101CActorSpec)

/-- ITS FALSE NEIGHBOUR: 'it returns false'. Refute it at one input. -/
def lawS4101CActorWrong : ChangeSpec := { name := "lawS4101CActor", fn := fun _ => fun
  | [d1, d2, d3, d4] => { results := [.lit (.bool false)], args := [d1, d2, d3, d4] }
  | _ => none }
def LawS4101CActorWrongFormAsk : Prop := lawS4101CActorRow.holds Ybaf.pinned (OpenSpec.ofChange lawS4101CActorWrong)

end Rows
end Go.Proofs.YbulkcfxgFmt
