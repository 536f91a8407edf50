/-
  THE SHELL OF A PROOF OF 'Rows.LawS4115BStoreSaid', after the shells of the other seats.
-/
import Derived.Test.YbulkcgeuRows
import Derived.WalkKit
import Derived.ProofKit
import Derived.OpenShut
import Derived.ChangeOld
import Derived.Below
import Derived.Deep.Grids
import Derived.Test.YbulkcgeuWhole
import Derived.Test.YbulkcgeuLong
namespace Go.Proofs.Ybulkcgeu.lawS4115BStore
open Go.ChangeShapes Go.WideShapes Go.ChangeAt Go.RowKit
set_option linter.unusedVariables false

theorem own : ownKnob Yba.prog.godebug = none := by kernel_rfl
theorem laidOut : laidOutB Yba.prog = true := by kernel_rfl

/-- A slice of integers that came in. -/
theorem arg_ints {H : Type} {enc : TypeId × Value → H} {W : World} {t e : TypeId} {k : IntKind} {spare : Nat → Bool} {held : Bool} {fuel : Nat} {a : Option Addr} {len cap : Nat} {x : DataW H × List MemPlace}
    (ht : Yba.prog.underlying t = some (.slice e)) (he : Yba.prog.underlying e = some (.int k)) (hc : Yba.prog.cellsOf e = 1) (h : DataW.trod enc Yba.prog W 0 spare held fuel t (Value.slice a len cap).cells.toList = some x) :
    ∃ (b off : Nat) (f : Nat → Int), Arg W a b off len (fun j => .int k (f j)) ∧ ∀ j, j < len → (Lit.int k (f j)).wf = true := by
  rcases open_ints ht he hc h with ⟨hcs, _⟩ | ⟨y, l, c, zs, hcs, _, hl, hm, hz, _, hcell, hwz⟩
  · simp [Value.cells] at hcs
    obtain ⟨rfl, rfl, rfl⟩ := hcs
    exact ⟨0, 0, fun _ => 0, ⟨fun h => by omega, fun j hj => by omega⟩, fun j hj => by omega⟩
  · simp [Value.cells] at hcs
    obtain ⟨rfl, rfl, rfl⟩ := hcs
    have hle : len ≤ zs.length := by rw [hz]; split <;> omega
    by_cases h0 : 0 < len
    · obtain ⟨b, off, rfl, hcl⟩ := ints_at hcell (by omega)
      refine ⟨b, off, fun j => zs.getD j 0, ⟨fun _ => rfl, fun j hj => hcl j (by omega)⟩, fun j hj => ?_⟩
      have hm : zs.getD j 0 ∈ zs := by rw [List.getD_eq_getElem?_getD, List.getElem?_eq_getElem (by omega)]; exact List.getElem_mem _
      exact hwz _ hm
    · exact ⟨0, 0, fun _ => 0, ⟨fun h => by omega, fun j hj => by omega⟩, fun j hj => by omega⟩

theorem arg_bools {H : Type} {enc : TypeId × Value → H} {W : World} {t e : TypeId} {held : Bool} {fuel : Nat} {a : Option Addr} {len cap : Nat} {x : DataW H × List MemPlace}
    (ht : Yba.prog.underlying t = some (.slice e)) (he : Yba.prog.underlying e = some .bool) (hc : Yba.prog.cellsOf e = 1) (h : DataW.trod enc Yba.prog W 0 (fun _ => true) held fuel t (Value.slice a len cap).cells.toList = some x) :
    ∃ (b off : Nat) (f : Nat → Bool), Arg W a b off len (fun j => .bool (f j)) := by
  rcases Go.Deep.open_bools ht he hc h with ⟨hcs, _⟩ | ⟨y, l, c, B, hcs, _, hl, hm, _, hcell⟩
  · simp [Value.cells] at hcs
    obtain ⟨rfl, rfl, rfl⟩ := hcs
    exact ⟨0, 0, fun _ => false, ⟨fun h => by omega, fun j hj => by omega⟩⟩
  · simp [Value.cells] at hcs
    obtain ⟨rfl, rfl, rfl⟩ := hcs
    by_cases h0 : 0 < len
    · obtain ⟨b, off, spot⟩ := y
      have hspot : spot = none := by simpa [Addr.add] using World.cell?_spot (hcell 0 (by omega))
      subst hspot
      exact ⟨b, off, B, ⟨fun _ => rfl, fun j hj => by rw [← Go.WideShapes.add_plain]; exact hcell j (by omega)⟩⟩
    · exact ⟨0, 0, fun _ => false, ⟨fun h => by omega, fun j hj => by omega⟩⟩

theorem Arg.nat {W : World} {a : Option Addr} {b off len : Nat} {f : Nat → Int} (h : Arg W a b off len (fun j => .int .u8 (f j))) (hw : ∀ j, j < len → (Lit.int .u8 (f j)).wf = true) :
    Arg W a b off len (fun j => .int .u8 ((f j).toNat : Int)) ∧ ∀ j, j < len → (f j).toNat ≤ 255 := by
  refine ⟨⟨h.ad, fun j hj => ?_⟩, fun j hj => ?_⟩
  · have hb := bounds_u8 (hw j hj)
    rw [h.cl j hj, Int.toNat_of_nonneg hb.1]
  · have hb := bounds_u8 (hw j hj)
    omega

theorem walk (nu ru fu : Int) (aI aC aV aO aIV aIG : Option Addr) (LI cI LC cC LV cV LO cO LIV cIV LIG cIG : Nat) (w : World) (w0 : (Lit.int .u8 nu).wf = true) (w1 : (Lit.int .u8 ru).wf = true) (w2 : (Lit.int .u8 fu).wf = true)
    (k3 : ∃ (b off : Nat) (f : Nat → Int), Arg w aI b off LI (fun j => .int .u8 (f j)) ∧ ∀ j, j < LI → (Lit.int .u8 (f j)).wf = true)
    (k4 : ∃ (b off : Nat) (f : Nat → Int), Arg w aC b off LC (fun j => .int .u8 (f j)) ∧ ∀ j, j < LC → (Lit.int .u8 (f j)).wf = true)
    (k5 : ∃ (b off : Nat) (f : Nat → Int), Arg w aV b off LV (fun j => .int .i64 (f j)) ∧ ∀ j, j < LV → (Lit.int .i64 (f j)).wf = true)
    (k6 : ∃ (b off : Nat) (f : Nat → Bool), Arg w aO b off LO (fun j => .bool (f j)))
    (k7 : ∃ (b off : Nat) (f : Nat → Int), Arg w aIV b off LIV (fun j => .int .i64 (f j)) ∧ ∀ j, j < LIV → (Lit.int .i64 (f j)).wf = true)
    (k8 : ∃ (b off : Nat) (f : Nat → Bool), Arg w aIG b off LIG (fun j => .bool (f j))) :
    Calls Yba.prog 3 #[.int .u8 nu, .int .u8 ru, .int .u8 fu, .slice aI LI cI, .slice aC LC cC, .slice aV LV cV, .slice aO LO cO, .slice aIV LIV cIV, .slice aIG LIG cIG] w fun e w' => e = .returned (.bool true) ∧ Below w.heap.size w w' := by
  by_cases h : 1024 < LI ∨ 1024 < LC ∨ 1024 < LV ∨ 1024 < LO ∨ 1024 < LIV ∨ 1024 < LIG
  · exact law_long nu ru fu aI aC aV aO aIV aIG LI cI LC cC LV cV LO cO LIV cIV LIG cIG w h
  have b0 := bounds_u8 w0
  have b1 := bounds_u8 w1
  have b2 := bounds_u8 w2
  obtain ⟨nn, rfl⟩ := Int.eq_ofNat_of_zero_le b0.1
  obtain ⟨rn, rfl⟩ := Int.eq_ofNat_of_zero_le b1.1
  obtain ⟨fn, rfl⟩ := Int.eq_ofNat_of_zero_le b2.1
  obtain ⟨bI, oI, fI, hI0, hIw⟩ := k3
  obtain ⟨bC, oC, fC, hC0, hCw⟩ := k4
  obtain ⟨bV, oV, fV, hV, _⟩ := k5
  obtain ⟨bO, oO, fO, hO⟩ := k6
  obtain ⟨bIV, oIV, fIV, hIV, _⟩ := k7
  obtain ⟨bIG, oIG, fIG, hIG⟩ := k8
  obtain ⟨hI, hIb⟩ := Arg.nat hI0 hIw
  obtain ⟨hC, hCb⟩ := Arg.nat hC0 hCw
  have hpos : 0 < 1 + nn % 6 := by omega
  exact law_walk nn rn fn (1 + nn % 6) (rn % 2) (fn % (1 + nn % 6)) aI aC aV aO aIV aIG bI oI LI cI bC oC LC cC bV oV LV cV bO oO LO cO bIV oIV LIV cIV bIG oIG LIG cIG (fun j => (fI j).toNat) (fun j => (fC j).toNat) fV fO fIV fIG w
    (by omega) (by omega) (by omega) (by omega) (by omega) (by rw [Int.natCast_emod]; omega) (Nat.mod_lt _ hpos) hI hC hV hO hIV hIG hIb hCb (by omega) (by omega) (by omega) (by omega) (by omega) (by omega)

set_option maxRecDepth 100000 in
theorem lifted (os : Os) (started : os.Started) (H : Type) (enc : TypeId × Value → H) :
    ReturnsInHanded {} Yba.checked os 3 .any (Rows.lawS4115BStoreSpec.pre6 enc Yba.prog Yba.f3 Rows.lawS4115BStoreRow.domain false) (Rows.lawS4115BStoreSpec.post enc Yba.prog Yba.f3 false true false false) := by
  refine returnsInHanded_of_change (C := Yba.checked) own started (by kernel_rfl) Yba.func3
    (ChangeSpec.witness6 (enc := enc) (C := Yba.checked) false ⟨#[], #[.int .u8 0, .int .u8 0, .int .u8 0, .slice none 0 0, .slice none 0 0, .slice none 0 0, .slice none 0 0, .slice none 0 0, .slice none 0 0], []⟩ 8 (by kernel_rfl) (by kernel_rfl) (by kernel_rfl) (by kernel_rfl)) ?_
  intro W base args ds gs before hval0 hW hcnd _
  have hval : ∀ (j : Nat) t v, Yba.f3.params[j]? = some t → args[j]? = some v → Value.okWide Yba.prog W .any base t v := hval0
  have hW' := hW
  obtain ⟨p, q, hA0, hV, rfl, hfz, hnd⟩ := hW
  have hA : DataW.TrodAll enc Yba.prog W 0 (fun _ => true) true Yba.f3.params.toList args.toList ds p := hA0
  rw [Yba.params3] at hA hval
  obtain ⟨v0, vs0, d0, ds0, p0, q0, hargs, rfl, rfl, h0, r0⟩ := trodAll_cons hA
  obtain ⟨v1, vs1, d1, ds1, p1, q1, rfl, rfl, rfl, h1, r1⟩ := trodAll_cons r0
  obtain ⟨v2, vs2, d2, ds2, p2, q2, rfl, rfl, rfl, h2, r2⟩ := trodAll_cons r1
  obtain ⟨v3, vs3, d3, ds3, p3, q3, rfl, rfl, rfl, h3, r3⟩ := trodAll_cons r2
  obtain ⟨v4, vs4, d4, ds4, p4, q4, rfl, rfl, rfl, h4, r4⟩ := trodAll_cons r3
  obtain ⟨v5, vs5, d5, ds5, p5, q5, rfl, rfl, rfl, h5, r5⟩ := trodAll_cons r4
  obtain ⟨v6, vs6, d6, ds6, p6, q6, rfl, rfl, rfl, h6, r6⟩ := trodAll_cons r5
  obtain ⟨v7, vs7, d7, ds7, p7, q7, rfl, rfl, rfl, h7, r7⟩ := trodAll_cons r6
  obtain ⟨v8, vs8, d8, ds8, p8, q8, rfl, rfl, rfl, h8, r8⟩ := trodAll_cons r7
  obtain ⟨rfl, rfl, rfl⟩ := trodAll_nil r8
  obtain rfl : args = #[v0, v1, v2, v3, v4, v5, v6, v7, v8] := by cases args; simp_all
  obtain ⟨rfl, rfl⟩ := trodVars_none hV
  obtain ⟨a0, rfl, rfl, rfl, w0⟩ := open_int Yba.underlying5 (hval 0 5 v0 rfl rfl) h0
  obtain ⟨a1, rfl, rfl, rfl, w1⟩ := open_int Yba.underlying5 (hval 1 5 v1 rfl rfl) h1
  obtain ⟨a2, rfl, rfl, rfl, w2⟩ := open_int Yba.underlying5 (hval 2 5 v2 rfl rfl) h2
  obtain ⟨a3, len3, cap3, rfl⟩ := okWide_slice Yba.underlying22 (hval 3 22 v3 rfl rfl)
  obtain ⟨a4, len4, cap4, rfl⟩ := okWide_slice Yba.underlying22 (hval 4 22 v4 rfl rfl)
  obtain ⟨a5, len5, cap5, rfl⟩ := okWide_slice Yba.underlying23 (hval 5 23 v5 rfl rfl)
  obtain ⟨a6, len6, cap6, rfl⟩ := okWide_slice Yba.underlying24 (hval 6 24 v6 rfl rfl)
  obtain ⟨a7, len7, cap7, rfl⟩ := okWide_slice Yba.underlying23 (hval 7 23 v7 rfl rfl)
  obtain ⟨a8, len8, cap8, rfl⟩ := okWide_slice Yba.underlying24 (hval 8 24 v8 rfl rfl)
  have lt3 : ∀ x ∈ p3, x.block < W.heap.size := by obtain ⟨m, hm⟩ := h3; exact DataW.trod_lt m _ _ _ hm
  have lt4 : ∀ x ∈ p4, x.block < W.heap.size := by obtain ⟨m, hm⟩ := h4; exact DataW.trod_lt m _ _ _ hm
  have lt5 : ∀ x ∈ p5, x.block < W.heap.size := by obtain ⟨m, hm⟩ := h5; exact DataW.trod_lt m _ _ _ hm
  have lt6 : ∀ x ∈ p6, x.block < W.heap.size := by obtain ⟨m, hm⟩ := h6; exact DataW.trod_lt m _ _ _ hm
  have lt7 : ∀ x ∈ p7, x.block < W.heap.size := by obtain ⟨m, hm⟩ := h7; exact DataW.trod_lt m _ _ _ hm
  have lt8 : ∀ x ∈ p8, x.block < W.heap.size := by obtain ⟨m, hm⟩ := h8; exact DataW.trod_lt m _ _ _ hm
  clear hA0 hval0
  refine (walk a0 a1 a2 a3 a4 a5 a6 a7 a8 len3 cap3 len4 cap4 len5 cap5 len6 cap6 len7 cap7 len8 cap8 W w0 w1 w2
    (by obtain ⟨m, hm⟩ := h3; exact arg_ints Yba.underlying22 Yba.underlying5 (by kernel_rfl) hm) (by obtain ⟨m, hm⟩ := h4; exact arg_ints Yba.underlying22 Yba.underlying5 (by kernel_rfl) hm)
    (by obtain ⟨m, hm⟩ := h5; exact arg_ints Yba.underlying23 Yba.underlying3 (by kernel_rfl) hm) (by obtain ⟨m, hm⟩ := h6; exact arg_bools Yba.underlying24 Yba.underlying4 (by kernel_rfl) hm)
    (by obtain ⟨m, hm⟩ := h7; exact arg_ints Yba.underlying23 Yba.underlying3 (by kernel_rfl) hm) (by obtain ⟨m, hm⟩ := h8; exact arg_bools Yba.underlying24 Yba.underlying4 (by kernel_rfl) hm)).mono fun e W' ⟨he, bel⟩ => ?_
  subst he
  exact ⟨_, rfl, _, _, _, [], _, [], hW', trodAll_mk1 (shut_bool Yba.underlying4 _), (trodAll_cons_mk (shut_int Yba.underlying5 w0) (trodAll_cons_mk (shut_int Yba.underlying5 w1) (trodAll_cons_mk (shut_int Yba.underlying5 w2)
    (trodAll_cons_mk (Below.trod laidOut (by kernel_rfl) (of_decide_eq_true (by kernel_rfl)) h3 bel lt3) (trodAll_cons_mk (Below.trod laidOut (by kernel_rfl) (of_decide_eq_true (by kernel_rfl)) h4 bel lt4)
    (trodAll_cons_mk (Below.trod laidOut (by kernel_rfl) (of_decide_eq_true (by kernel_rfl)) h5 bel lt5) (trodAll_cons_mk (Below.trod laidOut (by kernel_rfl) (of_decide_eq_true (by kernel_rfl)) h6 bel lt6)
    (trodAll_cons_mk (Below.trod laidOut (by kernel_rfl) (of_decide_eq_true (by kernel_rfl)) h7 bel lt7) (trodAll_cons_mk (Below.trod laidOut (by kernel_rfl) (of_decide_eq_true (by kernel_rfl)) h8 bel lt8) trodAll_mk0))))))))), rfl, bel.frame _, fun h => by cases h⟩

theorem over : Rows.lawS4115BStoreRow.holds Yba.pinned (OpenSpec.ofChange Rows.lawS4115BStoreSpec) :=
  OpenClaim.holds_of_wide 3 Yba.f3 rfl rfl rfl rfl rfl rfl rfl ⟨rfl, rfl, rfl, rfl, rfl⟩ rfl rfl rfl rfl rfl (by kernel_rfl) Yba.func3 (by kernel_rfl)
    (of_decide_eq_true (by kernel_rfl)) (by unfold Func.isWrapper; first | (rw [if_pos (by decide +kernel)]; kernel_rfl) | (rw [if_neg (by decide +kernel)]; exact ⟨rfl, rfl⟩))
    (fun os started H enc _ => lifted os started H enc)

/-- ████ THE STATEMENT ████ -/
theorem proved : Rows.LawS4115BStoreSaid := over
#print axioms proved
end Go.Proofs.Ybulkcgeu.lawS4115BStore
