/-
  No cell of these rows narrows 'for every input' (looked for: loops, veiled, ifaces, maps, wideKeys, modest, calm, conditions, laid).
  DERIVED. THE GIVEN ROWS OF THIS SEAT. 2 by the template 'for every input the law returns true; each argument reads behind the call as it read before'; 0 by the template 'total and deterministic' (their statements: YbulkcfxgTotals.lean).
  GIVEN WITH THE SEED: the statements are not yours to turn. If you find one false, say at which input.
  Laid BY PROGRAM, IN A SANDBOX (cutbox-rows.mjs): the forced cells as the released guide's own fill.sh prints them over the translation 914e99160cd90491… (all of the seat's roots in one cut). By AI agents, Wed Nov 11 2026. No macro, syntax, notation, axiom, sorry.
-/
import Derived.Test.YbulkcfxgChecked
import GoSem.Claim
import GoSem.ClaimJoined
import GoSem.ClaimMapViews
import Derived.JoinedTies
import Derived.KernelRfl
namespace Go.Proofs.Ybulkcfxg
/- THE CELL 'sum', in the pinned program and in every row, IS THE sha256 OF THE DUMP (.gsa) THAT YbulkcfxgProg.lean LOADS. Nothing in Lean hashes anything: it is a label: what it is worth is what the hold of that sum in a sandbox is worth. -/
noncomputable def Yba.pinned : Pinned := { name := "ybulkcfxg", sum := "914e99160cd904912e084f3f4c7b16de30fec244b01d12791f8df08a0eb7671c", checked := Yba.checked }
namespace Rows
def none {H : Type} : Left H := { results := [], args := [] }

/-- 'diffclock.LawS4101BFirstUse': WHATEVER THE INPUT: true; the input reads as it did. -/
def lawS4101BFirstUseSpec : ChangeSpec := { name := "lawS4101BFirstUse", fn := fun _ => fun
  | [d1, d2] => { results := [.lit (.bool true)], args := [d1, d2] }
  | _ => none }
def lawS4101BFirstUseRow : OpenClaim := { program := "ybulkcfxg", sum := "914e99160cd904912e084f3f4c7b16de30fec244b01d12791f8df08a0eb7671c", func := "example.com/diffclock/diffclock.LawS4101BFirstUse", spec := "lawS4101BFirstUse", apart := false }
def LawS4101BFirstUseSaid : Prop := lawS4101BFirstUseRow.holds Yba.pinned (OpenSpec.ofChange lawS4101BFirstUseSpec)

/-- ITS FALSE NEIGHBOUR: 'it returns false'. Refute it at one input. -/
def lawS4101BFirstUseWrong : ChangeSpec := { name := "lawS4101BFirstUse", fn := fun _ => fun
  | [d1, d2] => { results := [.lit (.bool false)], args := [d1, d2] }
  | _ => none }
def LawS4101BFirstUseWrongFalsely : Prop := lawS4101BFirstUseRow.holds Yba.pinned (OpenSpec.ofChange lawS4101BFirstUseWrong)

/-- 'diffclock.LawS4101BExisting': WHATEVER THE INPUT: true; the input reads as it did. -/
def lawS4101BExistingSpec : ChangeSpec := { name := "lawS4101BExisting", fn := fun _ => fun
  | [d1, d2, d3] => { results := [.lit (.bool true)], args := [d1, d2, d3] }
  | _ => none }
def lawS4101BExistingRow : OpenClaim := { program := "ybulkcfxg", sum := "914e99160cd904912e084f3f4c7b16de30fec244b01d12791f8df08a0eb7671c", func := "example.com/diffclock/diffclock.LawS4101BExisting", spec := "lawS4101BExisting", apart := false }
def LawS4101BExistingSaid : Prop := lawS4101BExistingRow.holds Yba.pinned (OpenSpec.ofChange lawS4101BExistingSpec)

/-- ITS FALSE NEIGHBOUR: 'it returns false'. Refute it at one input. -/
def lawS4101BExistingWrong : ChangeSpec := { name := "lawS4101BExisting", fn := fun _ => fun
  | [d1, d2, d3] => { results := [.lit (.bool false)], args := [d1, d2, d3] }
  | _ => none }
def LawS4101BExistingWrongFalsely : Prop := lawS4101BExistingRow.holds Yba.pinned (OpenSpec.ofChange lawS4101BExistingWrong)

end Rows
end Go.Proofs.Ybulkcfxg
