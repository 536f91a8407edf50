import Derived.Test.YbulkcfxgFmtCards
import Derived.Test.YbulkcfxgFmtOpen
import Derived.Test.YbulkcfxgFmtLaw
import Derived.Stop.JoinedTold
import Derived.SevenToldRow
import Derived.ProofKit
import Derived.OpenShut
import Derived.ShutString
namespace Go.Proofs.YbulkcfxgFmt
open Go.ChangeShapes Go.WideShapes Go.ChangeAt Go.RowKit
open Go.ChangeMaps (open_string shut_string)
open Go.Extern.Stop Go.Stop Go.Extern

namespace lawS4101CActor
set_option maxRecDepth 100000 in
theorem walk (F : Interp) (nm : Nat → ByteArray) (nd lf : Nat → Int) (n : Int) (q : ByteArray) (pk : Int) (a : Option Addr) (b off len cap : Nat) (w : World) (hF : F.answers w.tape) (ha : 0 < len → a = some ⟨b, off, none⟩) (hpk : (Lit.int .u8 pk).wf = true)
    (hc0 : ∀ j, j < len → w.cell? ⟨b, off + j * 3, none⟩ = some (.string (nm j))) (hc1 : ∀ j, j < len → w.cell? ⟨b, off + j * 3 + 1, none⟩ = some (.int .i64 (lf j))) (hc2 : ∀ j, j < len → w.cell? ⟨b, off + j * 3 + 2, none⟩ = some (.int .i64 (nd j))) :
    Calls Ybaf.prog 3 #[.slice a len cap, .int .i64 n, .string q, .int .u8 pk] w fun e w' => e = .returned (.bool true) ∧ Below w.heap.size w w' := by
  have hb0 : 0 ≤ pk ∧ pk ≤ 255 := bounds_u8 hpk
  obtain ⟨k, rfl⟩ := Int.eq_ofNat_of_zero_le hb0.1
  by_cases hl : 1024 < len
  · clear hc0 hc1 hc2 ha
    go_enter Ybaf.func3, Ybaf.ntmps3
    go_wp2
    go_ret
    exact ⟨rfl, Below.refl _ _⟩
  · exact law_walk F nm nd lf n q k a b off len cap w hF ha (by omega) (by omega) hc0 hc1 hc2

set_option maxRecDepth 100000 in
theorem lifted (os : Os) (started : os.Started) (H : Type) (enc : TypeId × Value → H) :
    ReturnsInTold none {} Ybaf.checked os 3 .any Input.okWide ((OpenSpec.ofChange Rows.lawS4101CActorSpec).preRow enc Ybaf.prog Ybaf.f3 Rows.lawS4101CActorRow.domain false []) (fun F => ((OpenSpec.ofChange Rows.lawS4101CActorSpec).at F).post enc Ybaf.prog Ybaf.f3 false true false false) (aloneAtReturn Ybaf.prog) nothingAlways := by
  refine returnsInTold_of_row (C := Ybaf.checked) (s := OpenSpec.ofChange Rows.lawS4101CActorSpec) (by kernel_rfl) own started (by kernel_rfl) Ybaf.func3
    (OpenSpec.witness_stopped (enc := enc) (C := Ybaf.checked) false ⟨#[], #[.slice none 0 0, .int .i64 0, .string ⟨#[]⟩, .int .u8 0], []⟩ 8 (by kernel_rfl) (by kernel_rfl) (by kernel_rfl) (by kernel_rfl)) ?_
  intro F W base args ds gs before _ hF hval0 hW _ _ hsz _ _
  have hval : ∀ (j : Nat) t v, Ybaf.f3.params[j]? = some t → args[j]? = some v → Value.okWide Ybaf.prog W .any base t v := hval0
  have hW' := hW
  obtain ⟨p, q, hA0, hV, rfl, hfz, hnd⟩ := hW
  have hA : DataW.TrodAll enc Ybaf.prog W 0 (fun _ => true) true Ybaf.f3.params.toList args.toList ds p := hA0
  rw [Ybaf.params3] at hA hval
  obtain ⟨v0, v1, v2, v3, d0, d1, d2, d3, p0, p1, p2, p3, rfl, rfl, rfl, h0, h1, h2, h3⟩ := trodAll_four hA
  obtain ⟨rfl, rfl⟩ := trodVars_none hV
  have lt0 : ∀ x ∈ p0, x.block < W.heap.size := by obtain ⟨m, hm⟩ := h0; exact DataW.trod_lt m _ _ _ hm
  obtain ⟨n, rfl, rfl, rfl, wn⟩ := open_int Ybaf.underlying3 (hval 1 3 v1 rfl rfl) h1
  obtain ⟨q, rfl, rfl, rfl, wq⟩ := open_string Ybaf.underlying9 (hval 2 9 v2 rfl rfl) h2
  obtain ⟨pk, rfl, rfl, rfl, wpk⟩ := open_int Ybaf.underlying5 (hval 3 5 v3 rfl rfl) h3
  obtain ⟨a, len, cap, rfl⟩ := okWide_slice Ybaf.underlying22 (hval 0 22 v0 rfl rfl)
  obtain ⟨b, off, nm, nd, lf, ha, hc0, hc1, hc2⟩ := open_entries h0
  clear hA0 hval0
  refine (walk F.told nm nd lf n q pk a b off len cap W hF ha wpk hc0 hc1 hc2).mono fun en W' ⟨he, bel⟩ => ?_
  subst he
  exact ⟨_, rfl, _, _, _, [], _, [], hW', trodAll_mk1 (shut_bool Ybaf.underlying4 _), trodAll_mk4 (Below.trod laidOut (by kernel_rfl) (of_decide_eq_true (by kernel_rfl)) h0 bel lt0) (shut_int Ybaf.underlying3 wn) (shut_string Ybaf.underlying9 wq) (shut_int Ybaf.underlying5 wpk), rfl, bel.frame _, fun h => by cases h⟩

/-- THE STATEMENT -/
theorem proved : Rows.LawS4101CActorToldSaid :=
  Claim7.holds_of_told_any 3 Ybaf.f3 "fmt.errorf" [] [] _ _ _ (by kernel_rfl) rfl rfl rfl laidOut (by kernel_rfl) rfl ⟨rfl, rfl, rfl, rfl, rfl, rfl, rfl⟩ rfl rfl (by kernel_rfl) (by kernel_rfl) Ybaf.func3 (by kernel_rfl)
    (of_decide_eq_true (by kernel_rfl)) (by unfold Func.isWrapper; first | (rw [if_pos (by decide +kernel)]; kernel_rfl) | (rw [if_neg (by decide +kernel)]; exact ⟨rfl, rfl⟩)) stops.symm rfl stopKnobs.symm (by kernel_rfl)
    (by kernel_rfl) (by kernel_rfl) (by kernel_rfl) (by kernel_rfl) (by kernel_rfl) (by kernel_rfl) (by kernel_rfl) (by kernel_rfl) (by kernel_rfl) rfl (by kernel_rfl) rfl rfl
    rfl rfl
    rfl (by kernel_rfl) (by kernel_rfl) (by kernel_rfl) (by decide) (by kernel_rfl)
    (OpenClaim.moreEntering_of (by kernel_rfl) (by kernel_rfl) (by kernel_rfl) (by kernel_rfl) (by kernel_rfl) (by kernel_rfl) (by kernel_rfl) (by kernel_rfl) (by kernel_rfl) (by kernel_rfl))
    ⟨_, WideRow.started_initial, quiet _⟩
    (fun os started _ H enc _ => lifted os started H enc)
#print axioms proved
end lawS4101CActor
end Go.Proofs.YbulkcfxgFmt
