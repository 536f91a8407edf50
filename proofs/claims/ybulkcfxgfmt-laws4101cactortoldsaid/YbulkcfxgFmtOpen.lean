/-
  The slice of entries taken apart: of each entry three cells.
-/
import Derived.Test.YbulkcfxgFmtCards
import Derived.ProofKit
import Derived.OpenShut
import Derived.Deep.Slices
import Derived.Deep.Strs
import Derived.Stop.JoinedTold
import Derived.SevenToldRow
namespace Go.Proofs.YbulkcfxgFmt
open Go.ChangeShapes Go.WideShapes Go.RowKit Go.Deep
open Go.Extern.Stop Go.Stop Go.Extern

theorem cells31 : Ybaf.prog.cellsOf 31 = 3 := by kernel_rfl
theorem cells9 : Ybaf.prog.cellsOf 9 = 1 := by kernel_rfl
theorem cells3 : Ybaf.prog.cellsOf 3 = 1 := by kernel_rfl
theorem own : ownKnob Ybaf.prog.godebug = none := by kernel_rfl
theorem laidOut : laidOutB Ybaf.pinned.checked.prog = true := by kernel_rfl
theorem stops : Ybaf.pinned.checked.prog.stops = ["fmt.errorf"] := by kernel_rfl
theorem stopKnobs : Ybaf.pinned.checked.prog.stopKnobs = [] := by kernel_rfl
theorem quiet (os : Os) : Stop.quiet Ybaf.pinned.checked.prog os := by
  intro k hk
  rw [stopKnobs] at hk
  cases hk

theorem open_entry {H : Type} {enc : TypeId × Value → H} {w : World} {base : Nat} {spare : Nat → Bool} {held : Bool} {n : Nat} {cs : List Value} {x : DataW H × List MemPlace}
    (h : DataW.trod enc Ybaf.prog w base spare held n 31 cs = some x) : ∃ (s : ByteArray) (l d : Int), cs = [.string s, .int .i64 l, .int .i64 d] := by
  obtain ⟨y0, y1, y2, m, _, hl, h0, h1, h2⟩ := trod_struct3 Ybaf.underlying31 h
  rw [cells31] at hl
  obtain ⟨c0, c1, c2, rfl⟩ : ∃ c0 c1 c2, cs = [c0, c1, c2] := by
    match cs, hl with
    | [c0, c1, c2], _ => exact ⟨c0, c1, c2, rfl⟩
  obtain ⟨s, e0, _⟩ := DataW.trod_string Ybaf.underlying9 h0
  obtain ⟨l, e1, _⟩ := DataW.trod_int Ybaf.underlying3 h1
  obtain ⟨d, e2, _⟩ := DataW.trod_int Ybaf.underlying3 h2
  simp [cells9, cells3] at e0 e1 e2
  subst e0 e1 e2
  exact ⟨s, l, d, rfl⟩

/-- Nil or empty; or a row of entries. -/
theorem open_entries {H : Type} {enc : TypeId × Value → H} {w : World} {spare : Nat → Bool} {held : Bool} {a : Option Addr} {len cap : Nat} {d : DataW H} {p : List MemPlace}
    (h : DataW.Trod enc Ybaf.prog w 0 spare held 22 (.slice a len cap) d p) :
    ∃ (b off : Nat) (nm : Nat → ByteArray) (nd lf : Nat → Int), (0 < len → a = some ⟨b, off, none⟩) ∧ (∀ j, j < len → w.cell? ⟨b, off + j * 3, none⟩ = some (.string (nm j))) ∧
      (∀ j, j < len → w.cell? ⟨b, off + j * 3 + 1, none⟩ = some (.int .i64 (lf j))) ∧ (∀ j, j < len → w.cell? ⟨b, off + j * 3 + 2, none⟩ = some (.int .i64 (nd j))) := by
  obtain ⟨fuel, hf⟩ := h
  rcases open_slice Ybaf.underlying22 hf with ⟨hcs, _⟩ | ⟨x, len', cap', m, n, D, Pl, hcs, _, hlc, _, hm, _, hel⟩
  · simp [Value.cells] at hcs
    obtain ⟨_, rfl, _⟩ := hcs
    exact ⟨0, 0, fun _ => ByteArray.empty, fun _ => 0, fun _ => 0, fun h => by omega, fun j hj => by omega, fun j hj => by omega, fun j hj => by omega⟩
  · simp [Value.cells] at hcs
    obtain ⟨rfl, rfl, rfl⟩ := hcs
    have hlm : len ≤ m := by rw [hm]; split <;> omega
    have hall : ∀ j, j < len → ∃ t : ByteArray × Int × Int, w.cells? 0 (x.add (j * 3)) 3 = some [.string t.1, .int .i64 t.2.1, .int .i64 t.2.2] := by
      intro j hj
      obtain ⟨cs', h1, h2⟩ := hel j (by omega)
      rw [cells31] at h1
      obtain ⟨s, l, d', rfl⟩ := open_entry h2
      exact ⟨(s, l, d'), h1⟩
    obtain ⟨f, hfx⟩ : ∃ f : Nat → ByteArray × Int × Int, ∀ j, j < len → w.cells? 0 (x.add (j * 3)) 3 = some [.string (f j).1, .int .i64 (f j).2.1, .int .i64 (f j).2.2] := choose_lt hall
    have hcell : ∀ j, j < len → ∀ t, t < 3 → w.cell? ((x.add (j * 3)).add t) = [Value.string (f j).1, .int .i64 (f j).2.1, .int .i64 (f j).2.2][t]? := fun j hj t ht => (World.cells?_some (hfx j hj)).2.2 t ht
    by_cases h0 : 0 < len
    · obtain ⟨b, off, spot⟩ := x
      have hspot : spot = none := by
        have := hcell 0 h0 0 (by omega)
        simpa [Addr.add] using World.cell?_spot (v := Value.string (f 0).1) (this.trans rfl)
      subst hspot
      refine ⟨b, off, fun j => (f j).1, fun j => (f j).2.2, fun j => (f j).2.1, fun _ => rfl, fun j hj => ?_, fun j hj => ?_, fun j hj => ?_⟩
      · have := hcell j hj 0 (by omega); rw [add_plain, add_plain, Nat.add_zero] at this; exact this
      · have := hcell j hj 1 (by omega); rw [add_plain, add_plain] at this; exact this
      · have := hcell j hj 2 (by omega); rw [add_plain, add_plain] at this; exact this
    · exact ⟨0, 0, fun _ => ByteArray.empty, fun _ => 0, fun _ => 0, fun h => absurd h h0, fun j hj => by omega, fun j hj => by omega, fun j hj => by omega⟩

end Go.Proofs.YbulkcfxgFmt
