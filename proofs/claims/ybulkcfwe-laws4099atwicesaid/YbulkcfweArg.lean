/-
  THE SHELL OF A PROOF OF 'Rows.LawS4099AModelSaid', after the shells of the other seats.
-/
import Derived.Test.YbulkcfweRows
import Derived.WalkKit
import Derived.ProofKit
import Derived.OpenShut
import Derived.ChangeOld
import Derived.Below
import Derived.Deep.Slices
import Derived.Test.YbulkcfweModel
namespace Go.Proofs.Ybulkcfwe
open Go.ChangeShapes Go.WideShapes Go.ChangeAt Go.RowKit
set_option linter.unusedVariables false

theorem cells39 : Yba.prog.cellsOf 39 = 2 := by kernel_rfl
theorem cells2 : Yba.prog.cellsOf 2 = 1 := by kernel_rfl

/-- The number in a cell. -/
def numIn : Option Value → Int
  | some (.int _ n) => n
  | _ => 0

/-- A slice of drawn ends that came in. -/
theorem arg_ends {H : Type} {en : TypeId × Value → H} {W : World} {held : Bool} {fuel : Nat} {a : Option Addr} {len cap : Nat} {x : DataW H × List MemPlace}
    (h : DataW.trod en Yba.prog W 0 (fun _ => true) held fuel 22 (Value.slice a len cap).cells.toList = some x) :
    ∃ (b off : Nat) (xs : List E), ArgE W a b off len xs := by
  rcases Go.Deep.open_slice Yba.underlying22 h with ⟨hcs, _⟩ | ⟨y, l, c, m, k, D, Pl, hcs, _, hl, hm, hmm, _, hel⟩
  · simp [Value.cells] at hcs
    obtain ⟨rfl, rfl, rfl⟩ := hcs
    exact ⟨0, 0, [], ⟨fun h => by omega, rfl, fun j hj => by omega, fun j hj => by omega⟩⟩
  · simp [Value.cells] at hcs
    obtain ⟨rfl, rfl, rfl⟩ := hcs
    simp only [if_true] at hmm
    subst hmm
    have hc : ∀ i, i < len → ∃ p q : Int, W.cell? (y.add (i * 2)) = some (.int .i64 p) ∧ W.cell? ((y.add (i * 2)).add 1) = some (.int .i64 q) := by
      intro i hi
      obtain ⟨cs', h1, h2⟩ := hel i (by omega)
      rw [cells39] at h1
      obtain ⟨y0, y1, n, _, hcl, t0, t1⟩ := trod_struct2 Yba.underlying39 h2
      rw [cells39] at hcl
      obtain ⟨_, hlen, hcell⟩ := World.cells?_some h1
      obtain ⟨c0, c1, rfl⟩ : ∃ c0 c1, cs' = [c0, c1] := by
        match cs', hcl with
        | [c0, c1], _ => exact ⟨c0, c1, rfl⟩
      obtain ⟨p, hp, _, _⟩ := DataW.trod_int (k := .i64) Yba.underlying2 t0
      obtain ⟨q, hq, _, _⟩ := DataW.trod_int (k := .i64) Yba.underlying2 t1
      simp [cells2] at hp hq
      subst hp hq
      refine ⟨p, q, ?_, ?_⟩
      · have := hcell 0 (by omega)
        simpa [Addr.add] using this
      · have := hcell 1 (by omega)
        simpa using this
    by_cases h0 : 0 < len
    · obtain ⟨b, off, spot⟩ := y
      obtain ⟨p0, _, hp0, _⟩ := hc 0 h0
      have hspot : spot = none := by simpa [Addr.add] using World.cell?_spot hp0
      subst hspot
      have e0 : ∀ j, ((⟨b, off, none⟩ : Addr).add (j * 2)) = ⟨b, off + j * 2, none⟩ := fun j => Go.WideShapes.add_plain _ _ _
      have e1 : ∀ j, (((⟨b, off, none⟩ : Addr).add (j * 2)).add 1) = ⟨b, off + j * 2 + 1, none⟩ := fun j => by rw [e0, Go.WideShapes.add_plain]
      refine ⟨b, off, (List.range len).map (fun i => (numIn (W.cell? ⟨b, off + i * 2, none⟩), numIn (W.cell? ⟨b, off + i * 2 + 1, none⟩))), ⟨fun _ => rfl, by simp, fun j hj => ?_, fun j hj => ?_⟩⟩
      · obtain ⟨p, q, hp, hq⟩ := hc j hj
        rw [e0] at hp
        rw [hp]
        unfold at'
        simp [List.getD_eq_getElem?_getD, hj, hp, numIn]
      · obtain ⟨p, q, hp, hq⟩ := hc j hj
        rw [e1] at hq
        rw [hq]
        unfold pr'
        simp [List.getD_eq_getElem?_getD, hj, hq, numIn]
    · have : len = 0 := by omega
      subst this
      exact ⟨0, 0, [], ⟨fun h => by omega, rfl, fun j hj => by omega, fun j hj => by omega⟩⟩
end Go.Proofs.Ybulkcfwe
