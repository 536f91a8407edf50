/-
  The struct argument taken apart: eight integers.
-/
import Derived.Test.YbulkcfweFmtCards
import Derived.ProofKit
import Derived.OpenShut
import Derived.Deep.Fields
import Derived.Stop.JoinedTold
import Derived.SevenToldRow
namespace Go.Proofs.YbulkcfweFmt
open Go.ChangeShapes Go.WideShapes Go.RowKit

theorem array8 {α : Type} {cs : Array α} (h : cs.size = 8) : ∃ c0 c1 c2 c3 c4 c5 c6 c7, cs = #[c0, c1, c2, c3, c4, c5, c6, c7] := by
  obtain ⟨l⟩ := cs
  match l, h with
  | [c0, c1, c2, c3, c4, c5, c6, c7], _ => exact ⟨c0, c1, c2, c3, c4, c5, c6, c7, rfl⟩

theorem cells23 : Ybaf.prog.cellsOf 23 = 8 := by kernel_rfl
theorem cells2 : Ybaf.prog.cellsOf 2 = 1 := by kernel_rfl
theorem cells3 : Ybaf.prog.cellsOf 3 = 1 := by kernel_rfl

theorem open_job {H : Type} {enc : TypeId × Value → H} {w : World} {r : Reach} {b0 base : Nat} {spare : Nat → Bool} {held : Bool} {v : Value} {d : DataW H} {p : List MemPlace}
    (hv : Value.okWide Ybaf.prog w r b0 23 v) (h : DataW.Trod enc Ybaf.prog w base spare held 23 v d p) :
    ∃ a b c e f g i j : Int, v = .agg #[.int .i64 a, .int .i64 b, .int .i64 c, .int .i64 e, .int .i64 f, .int .i64 g, .int .i64 i, .int .i64 j] := by
  obtain ⟨cs, rfl, hsz⟩ := okWide_struct Ybaf.underlying23 hv
  obtain ⟨c0, c1, c2, c3, c4, c5, c6, c7, rfl⟩ := array8 (hsz.trans cells23)
  obtain ⟨fuel, hf⟩ := h
  obtain ⟨xs, n, _, _, _, hlen, hx⟩ := DataW.trod_struct Ybaf.underlying23 hf
  have get : ∀ i, i < 8 → ∃ y, xs[i]? = some y := fun i hi => ⟨xs[i]'(by rw [hlen]; exact hi), List.getElem?_eq_getElem _⟩
  obtain ⟨y0, e0⟩ := get 0 (by omega)
  obtain ⟨y1, e1⟩ := get 1 (by omega)
  obtain ⟨y2, e2⟩ := get 2 (by omega)
  obtain ⟨y3, e3⟩ := get 3 (by omega)
  obtain ⟨y4, e4⟩ := get 4 (by omega)
  obtain ⟨y5, e5⟩ := get 5 (by omega)
  obtain ⟨y6, e6⟩ := get 6 (by omega)
  obtain ⟨y7, e7⟩ := get 7 (by omega)
  have h0 := (hx 0 _ rfl).trans e0
  have h1 := (hx 1 _ rfl).trans e1
  have h2 := (hx 2 _ rfl).trans e2
  have h3 := (hx 3 _ rfl).trans e3
  have h4 := (hx 4 _ rfl).trans e4
  have h5 := (hx 5 _ rfl).trans e5
  have h6 := (hx 6 _ rfl).trans e6
  have h7 := (hx 7 _ rfl).trans e7
  obtain ⟨a0, q0, _⟩ := DataW.trod_int Ybaf.underlying3 h0
  obtain ⟨a1, q1, _⟩ := DataW.trod_int Ybaf.underlying2 h1
  obtain ⟨a2, q2, _⟩ := DataW.trod_int Ybaf.underlying2 h2
  obtain ⟨a3, q3, _⟩ := DataW.trod_int Ybaf.underlying2 h3
  obtain ⟨a4, q4, _⟩ := DataW.trod_int Ybaf.underlying2 h4
  obtain ⟨a5, q5, _⟩ := DataW.trod_int Ybaf.underlying2 h5
  obtain ⟨a6, q6, _⟩ := DataW.trod_int Ybaf.underlying2 h6
  obtain ⟨a7, q7, _⟩ := DataW.trod_int Ybaf.underlying3 h7
  simp [Value.cells, cells2, cells3] at q0 q1 q2 q3 q4 q5 q6 q7
  subst q0 q1 q2 q3 q4 q5 q6 q7
  exact ⟨_, _, _, _, _, _, _, _, rfl⟩

open Go.Extern.Stop Go.Stop Go.Extern
theorem own : ownKnob Ybaf.prog.godebug = none := by kernel_rfl
theorem laidOut : laidOutB Ybaf.pinned.checked.prog = true := by kernel_rfl
theorem stops : Ybaf.pinned.checked.prog.stops = ["fmt.errorf"] := by kernel_rfl
theorem stopKnobs : Ybaf.pinned.checked.prog.stopKnobs = [] := by kernel_rfl
theorem quiet (os : Os) : Stop.quiet Ybaf.pinned.checked.prog os := by
  intro k hk
  rw [stopKnobs] at hk
  cases hk


end Go.Proofs.YbulkcfweFmt
