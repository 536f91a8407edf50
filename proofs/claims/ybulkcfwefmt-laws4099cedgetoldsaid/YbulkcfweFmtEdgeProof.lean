import Derived.Test.YbulkcfweFmtCards
import Derived.Test.YbulkcfweFmtOpen
import Derived.Test.YbulkcfweFmtEdge
import Derived.Stop.JoinedTold
import Derived.SevenToldRow
import Derived.ProofKit
import Derived.OpenShut
namespace Go.Proofs.YbulkcfweFmt
open Go.ChangeShapes Go.WideShapes Go.ChangeAt Go.RowKit
open Go.Extern.Stop Go.Stop Go.Extern

namespace lawS4099CEdge
theorem walk (F : Interp) (a b c d e f g h s q : Int) (w : World) (hF : F.answers w.tape) (q0 : -128 ≤ q) (q1 : q ≤ 127) :
    Calls Ybaf.prog 5 #[.agg #[.int .i64 a, .int .i64 b, .int .i64 c, .int .i64 d, .int .i64 e, .int .i64 f, .int .i64 g, .int .i64 h], .int .i64 s, .int .i8 q] w fun en w' => en = .returned (.bool true) ∧ Below w.heap.size w w' := by
  by_cases hs : s < 0 ∨ 1099511627776 < s
  · exact edge_out a b c d e f g h s q w hs
  · by_cases hq : 0 < q
    · exact edge_late F a b c d e f g h s q w hF (by omega) (by omega) hq q1
    · exact edge_ok a b c d e f g h s q w (by omega) (by omega) q0 (by omega)

set_option maxRecDepth 100000 in
theorem lifted (os : Os) (started : os.Started) (H : Type) (enc : TypeId × Value → H) :
    ReturnsInTold none {} Ybaf.checked os 5 .any Input.okWide ((OpenSpec.ofChange Rows.lawS4099CEdgeSpec).preRow enc Ybaf.prog Ybaf.f5 Rows.lawS4099CEdgeRow.domain false []) (fun F => ((OpenSpec.ofChange Rows.lawS4099CEdgeSpec).at F).post enc Ybaf.prog Ybaf.f5 false true false false) (aloneAtReturn Ybaf.prog) nothingAlways := by
  refine returnsInTold_of_row (C := Ybaf.checked) (s := OpenSpec.ofChange Rows.lawS4099CEdgeSpec) (by kernel_rfl) own started (by kernel_rfl) Ybaf.func5
    (OpenSpec.witness_stopped (enc := enc) (C := Ybaf.checked) false ⟨#[], #[.agg #[.int .i64 0, .int .i64 0, .int .i64 0, .int .i64 0, .int .i64 0, .int .i64 0, .int .i64 0, .int .i64 0], .int .i64 0, .int .i8 0], []⟩ 8 (by kernel_rfl) (by kernel_rfl) (by kernel_rfl) (by kernel_rfl)) ?_
  intro F W base args ds gs before _ hF hval0 hW _ _ hsz _ _
  have hval : ∀ (j : Nat) t v, Ybaf.f5.params[j]? = some t → args[j]? = some v → Value.okWide Ybaf.prog W .any base t v := hval0
  have hW' := hW
  obtain ⟨p, q, hA0, hV, rfl, hfz, hnd⟩ := hW
  have hA : DataW.TrodAll enc Ybaf.prog W 0 (fun _ => true) true Ybaf.f5.params.toList args.toList ds p := hA0
  rw [Ybaf.params5] at hA hval
  obtain ⟨v0, v1, v2, d0, d1, d2, p0, p1, p2, rfl, rfl, rfl, h0, h1, h2⟩ := trodAll_three hA
  obtain ⟨rfl, rfl⟩ := trodVars_none hV
  have lt0 : ∀ x ∈ p0, x.block < W.heap.size := by obtain ⟨m, hm⟩ := h0; exact DataW.trod_lt m _ _ _ hm
  obtain ⟨s, rfl, rfl, rfl, ws⟩ := open_int Ybaf.underlying2 (hval 1 2 v1 rfl rfl) h1
  obtain ⟨r, rfl, rfl, rfl, wr⟩ := open_int Ybaf.underlying33 (hval 2 33 v2 rfl rfl) h2
  obtain ⟨a, b, c, e, f, g, i, j, hv0⟩ := open_job (hval 0 23 v0 rfl rfl) h0
  subst hv0
  clear hA0 hval0
  have hr : -128 ≤ r ∧ r ≤ 127 := by
    have := wr
    simp [Lit.wf, IntKind.min, IntKind.max, IntKind.signed, IntKind.bits] at this
    omega
  refine (walk F.told a b c e f g i j s r W hF hr.1 hr.2).mono fun en W' ⟨he, bel⟩ => ?_
  subst he
  exact ⟨_, rfl, _, _, _, [], _, [], hW', trodAll_mk1 (shut_bool Ybaf.underlying4 _), trodAll_mk3 (Below.trod laidOut (by kernel_rfl) (of_decide_eq_true (by kernel_rfl)) h0 bel lt0) (shut_int Ybaf.underlying2 ws) (shut_int Ybaf.underlying33 wr), rfl, bel.frame _, fun h => by cases h⟩

/-- THE STATEMENT -/
theorem proved : Rows.LawS4099CEdgeToldSaid :=
  Claim7.holds_of_told_any 5 Ybaf.f5 "fmt.errorf" [] [] _ _ _ (by kernel_rfl) rfl rfl rfl laidOut (by kernel_rfl) rfl ⟨rfl, rfl, rfl, rfl, rfl, rfl, rfl⟩ rfl rfl (by kernel_rfl) (by kernel_rfl) Ybaf.func5 (by kernel_rfl)
    (of_decide_eq_true (by kernel_rfl)) (by unfold Func.isWrapper; first | (rw [if_pos (by decide +kernel)]; kernel_rfl) | (rw [if_neg (by decide +kernel)]; exact ⟨rfl, rfl⟩)) stops.symm rfl stopKnobs.symm (by kernel_rfl)
    (by kernel_rfl) (by kernel_rfl) (by kernel_rfl) (by kernel_rfl) (by kernel_rfl) (by kernel_rfl) (by kernel_rfl) (by kernel_rfl) (by kernel_rfl) rfl (by kernel_rfl) rfl rfl
    rfl rfl
    rfl (by kernel_rfl) (by kernel_rfl) (by kernel_rfl) (by decide) (by kernel_rfl)
    (OpenClaim.moreEntering_of (by kernel_rfl) (by kernel_rfl) (by kernel_rfl) (by kernel_rfl) (by kernel_rfl) (by kernel_rfl) (by kernel_rfl) (by kernel_rfl) (by kernel_rfl) (by kernel_rfl))
    ⟨_, WideRow.started_initial, quiet _⟩
    (fun os started _ H enc _ => lifted os started H enc)
#print axioms proved
end lawS4099CEdge
end Go.Proofs.YbulkcfweFmt
