/-
  No cell of these rows narrows 'for every input' (looked for: loops, veiled, ifaces, maps, wideKeys, modest, calm, conditions, laid).
  DERIVED. THE GIVEN ROWS OF THIS SEAT. 2 by the template 'for every input the law returns true; each argument reads behind the call as it read before'; 0 by the template 'total and deterministic' (their statements: YbulkcfweTotals.lean).
  GIVEN WITH THE SEED: the statements are not yours to turn. If you find one false, say at which input.
  Laid BY PROGRAM, IN A SANDBOX (cutbox-rows.mjs): the forced cells as the released guide's own fill.sh prints them over the translation bdb393fbe26c8d76… (all of the seat's roots in one cut). By AI agents, Wed Nov 11 2026. No macro, syntax, notation, axiom, sorry.
-/
import Derived.Test.YbulkcfweChecked
import GoSem.Claim
import GoSem.ClaimJoined
import GoSem.ClaimMapViews
import Derived.JoinedTies
import Derived.KernelRfl
namespace Go.Proofs.Ybulkcfwe
/- THE CELL 'sum', in the pinned program and in every row, IS THE sha256 OF THE DUMP (.gsa) THAT YbulkcfweProg.lean LOADS. Nothing in Lean hashes anything: it is a label: what it is worth is what the hold of that sum in a sandbox is worth. -/
noncomputable def Yba.pinned : Pinned := { name := "ybulkcfwe", sum := "bdb393fbe26c8d761a6b23ff3f387c29e39bad62e6a45473bbb9bac6663e80a7", checked := Yba.checked }
namespace Rows
def none {H : Type} : Left H := { results := [], args := [] }

/-- 'measure.LawS4099AModel': WHATEVER THE INPUT: true; the input reads as it did. -/
def lawS4099AModelSpec : ChangeSpec := { name := "lawS4099AModel", fn := fun _ => fun
  | [d1, d2, d3, d4] => { results := [.lit (.bool true)], args := [d1, d2, d3, d4] }
  | _ => none }
def lawS4099AModelRow : OpenClaim := { program := "ybulkcfwe", sum := "bdb393fbe26c8d761a6b23ff3f387c29e39bad62e6a45473bbb9bac6663e80a7", func := "example.com/gapwise/gapwise/measure.LawS4099AModel", spec := "lawS4099AModel", unfollowed := true, recurses := true, apart := false }
def LawS4099AModelSaid : Prop := lawS4099AModelRow.holds Yba.pinned (OpenSpec.ofChange lawS4099AModelSpec)

/-- ITS FALSE NEIGHBOUR: 'it returns false'. Refute it at one input. -/
def lawS4099AModelWrong : ChangeSpec := { name := "lawS4099AModel", fn := fun _ => fun
  | [d1, d2, d3, d4] => { results := [.lit (.bool false)], args := [d1, d2, d3, d4] }
  | _ => none }
def LawS4099AModelWrongFalsely : Prop := lawS4099AModelRow.holds Yba.pinned (OpenSpec.ofChange lawS4099AModelWrong)

/-- 'measure.LawS4099ATwice': WHATEVER THE INPUT: true; the input reads as it did. -/
def lawS4099ATwiceSpec : ChangeSpec := { name := "lawS4099ATwice", fn := fun _ => fun
  | [d1, d2, d3, d4, d5] => { results := [.lit (.bool true)], args := [d1, d2, d3, d4, d5] }
  | _ => none }
def lawS4099ATwiceRow : OpenClaim := { program := "ybulkcfwe", sum := "bdb393fbe26c8d761a6b23ff3f387c29e39bad62e6a45473bbb9bac6663e80a7", func := "example.com/gapwise/gapwise/measure.LawS4099ATwice", spec := "lawS4099ATwice", unfollowed := true, recurses := true, apart := false }
def LawS4099ATwiceSaid : Prop := lawS4099ATwiceRow.holds Yba.pinned (OpenSpec.ofChange lawS4099ATwiceSpec)

/-- ITS FALSE NEIGHBOUR: 'it returns false'. Refute it at one input. -/
def lawS4099ATwiceWrong : ChangeSpec := { name := "lawS4099ATwice", fn := fun _ => fun
  | [d1, d2, d3, d4, d5] => { results := [.lit (.bool false)], args := [d1, d2, d3, d4, d5] }
  | _ => none }
def LawS4099ATwiceWrongFalsely : Prop := lawS4099ATwiceRow.holds Yba.pinned (OpenSpec.ofChange lawS4099ATwiceWrong)

end Rows
end Go.Proofs.Ybulkcfwe
