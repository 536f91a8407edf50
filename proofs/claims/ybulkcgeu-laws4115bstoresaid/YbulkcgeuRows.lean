/-
  No cell of these rows narrows 'for every input' (looked for: loops, veiled, ifaces, maps, wideKeys, modest, calm, conditions, laid).
  DERIVED. THE GIVEN ROWS OF THIS SEAT. 1 by the template 'for every input the law returns true; each argument reads behind the call as it read before'; 0 by the template 'total and deterministic' (their statements: YbulkcgeuTotals.lean).
  GIVEN WITH THE SEED: the statements are not yours to turn. If you find one false, say at which input.
  Laid BY PROGRAM, IN A SANDBOX (cutbox-rows.mjs): the forced cells as the released guide's own fill.sh prints them over the translation 2beab7ca31cb42b4… (all of the seat's roots in one cut). By AI agents, Wed Nov 11 2026. No macro, syntax, notation, axiom, sorry.
-/
import Derived.Test.YbulkcgeuChecked
import GoSem.Claim
import GoSem.ClaimJoined
import GoSem.ClaimMapViews
import Derived.JoinedTies
import Derived.KernelRfl
namespace Go.Proofs.Ybulkcgeu
/- THE CELL 'sum', in the pinned program and in every row, IS THE sha256 OF THE DUMP (.gsa) THAT YbulkcgeuProg.lean LOADS. Nothing in Lean hashes anything: it is a label: what it is worth is what the hold of that sum in a sandbox is worth. -/
noncomputable def Yba.pinned : Pinned := { name := "ybulkcgeu", sum := "2beab7ca31cb42b4bd9b219881c6a225440f3a06f0968a9f9e1193e4b0a52cab", checked := Yba.checked }
namespace Rows
def none {H : Type} : Left H := { results := [], args := [] }

/-- 'agree.LawS4115BStore': WHATEVER THE INPUT: true; the input reads as it did. -/
def lawS4115BStoreSpec : ChangeSpec := { name := "lawS4115BStore", fn := fun _ => fun
  | [d1, d2, d3, d4, d5, d6, d7, d8, d9] => { results := [.lit (.bool true)], args := [d1, d2, d3, d4, d5, d6, d7, d8, d9] }
  | _ => none }
def lawS4115BStoreRow : OpenClaim := { program := "ybulkcgeu", sum := "2beab7ca31cb42b4bd9b219881c6a225440f3a06f0968a9f9e1193e4b0a52cab", func := "example.com/votary/internal/agree.LawS4115BStore", spec := "lawS4115BStore", apart := false }
def LawS4115BStoreSaid : Prop := lawS4115BStoreRow.holds Yba.pinned (OpenSpec.ofChange lawS4115BStoreSpec)

/-- ITS FALSE NEIGHBOUR: 'it returns false'. Refute it at one input. -/
def lawS4115BStoreWrong : ChangeSpec := { name := "lawS4115BStore", fn := fun _ => fun
  | [d1, d2, d3, d4, d5, d6, d7, d8, d9] => { results := [.lit (.bool false)], args := [d1, d2, d3, d4, d5, d6, d7, d8, d9] }
  | _ => none }
def LawS4115BStoreWrongFalsely : Prop := lawS4115BStoreRow.holds Yba.pinned (OpenSpec.ofChange lawS4115BStoreWrong)

end Rows
end Go.Proofs.Ybulkcgeu
