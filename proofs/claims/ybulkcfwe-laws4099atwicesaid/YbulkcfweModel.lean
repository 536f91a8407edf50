/-
  The walk of LawS4099AModel.
-/
import Derived.Test.YbulkcfweMake
import Derived.Test.YbulkcfweSame
namespace Go.Proofs.Ybulkcfwe
open Go.RowKit

theorem own_base {w : World} {base base' : Nat} {v : Value} {l : List E} (h : w.ownsRow base 31 2 v l.length (flat l)) (hb : base' ≤ base) : w.ownsRow base' 31 2 v l.length (flat l) := by
  refine ⟨h.1, ?_⟩
  rcases h.2 with h2 | ⟨g, cap, cur, hv, hbb, hr⟩
  · exact Or.inl h2
  · exact Or.inr ⟨g, cap, cur, hv, by omega, hr⟩
theorem early_snoc (t : Int) (l : List E) (e : E) : early t (l ++ [e]) = early t l ++ (if e.1 ≤ t then [e] else []) := by
  unfold early
  rw [List.filter_append]
  by_cases h : e.1 ≤ t <;> simp [h]
theorem later_snoc (t : Int) (l : List E) (e : E) : later t (l ++ [e]) = later t l ++ (if e.1 ≤ t then [] else [e]) := by
  unfold later
  rw [List.filter_append]
  by_cases h : e.1 ≤ t
  · have h2 : ¬ t < e.1 := by omega
    simp [h, h2]
  · have h2 : t < e.1 := by omega
    simp [h, h2]
theorem later_len (t : Int) (l : List E) : (later t l).length ≤ l.length := List.length_filter_le _ _

set_option maxRecDepth 100000 in
set_option maxHeartbeats 2000000 in
theorem model_walk (aE : Option Addr) (bE off n cE ex seed : Nat) (t : Int) (xs : List E) (w : World) (hA : ArgE w aE bE off n xs) (hn : n ≤ 1024) (hex : ex ≤ 65535) (hseed : seed ≤ 4294967295) :
    Calls Yba.prog 3 #[.slice aE n cE, .int .u16 (ex : Int), .int .u32 (seed : Int), .int .i64 t] w fun e w' => e = .returned (.bool true) ∧ Below w.heap.size w w' := by
  have hbld := build_any aE bE off n cE ex seed xs w hA hn hex hseed
  have hAl : (allOf xs ex seed).length ≤ 1424 := by
    unfold allOf
    have := hA.ln
    simp
    omega
  generalize allOf xs ex seed = A at *
  have HB : Hid (Calls Yba.prog 5 #[.slice aE n cE, .int .u16 (ex : Int), .int .u32 (seed : Int)] w fun r w' => ∃ va, r = .returned (.tuple #[.pointer (some ⟨w.heap.size, 0, none⟩), va]) ∧ Built w w' w.heap.size A A va) := hbld
  clear hbld
  have hd : decide (1024 < (n : Int)) = false := by simp; omega
  go_enter Yba.func3, Yba.ntmps3
  go_wp2_with fail
  refine HB.out.mono ?_
  rintro _ wB ⟨va, rfl, hBt⟩
  clear HB hd
  obtain ⟨bh, hbh⟩ : ∃ bh, bh = w.heap.size := ⟨_, rfl⟩
  rw [← hbh] at hBt ⊢
  have HBH : Hid (bh = w.heap.size) := hbh
  clear hbh
  obtain ⟨v, l, hp, hH, hpm, hI, hll, hne⟩ := hBt.hs
  have bva := World.ownsRow.lt hBt.ra
  have bvv := World.ownsRow.lt hH.hr
  have hdrop := drop_any bh (bh + 1) v l hp t wB hH hI (by omega)
  have HD : Hid (Calls Yba.prog 6 #[.pointer (some ⟨bh, 0, none⟩), .int .i64 t] wB fun r w' => Dropped wB bh (bh + 1) v l t r w') := hdrop
  clear hdrop
  go_wp2_with fail
  refine HD.out.mono ?_
  rintro _ wD ⟨R, m, hp', v', rfl, hH', hv', hpr, hR, hm, hI', hK⟩
  have hra : wD.ownsRow (bh + 1) 31 2 va A.length (flat A) := own_keep hBt.ra (fun g hg => hK.block g (bva g hg).2 (by
    rintro (h | h)
    · have := (bva g hg).1; omega
    · exact hne g h hg))
  have hbl : Below bh w wD := hBt.bl.trans (hK.below (by have := hBt.base; omega) (fun k hk => by
    rcases hk with rfl | hk
    · exact Nat.le_refl _
    · have := (bvv k hk).1; omega))
  obtain ⟨hsp, hsum⟩ := split_at (hpm.symm.trans hpr) hR hm
  have hml : m.length ≤ 1424 := by have := hsp.length_eq; have := later_len t A; omega
  obtain ⟨P, hP⟩ : ∃ P, P = IntKind.i64.wrap (S R) := ⟨_, rfl⟩
  rw [← hP]
  have HP : Hid (P = IntKind.i64.wrap (S (early t A))) := by show P = _; rw [hP, hsum]
  have HSP : Hid ((later t A).Perm m) := hsp
  clear HD hBt hH hpm hI hll hne bva bvv hpr hR hm hK hsp hsum hP hv'
  obtain ⟨ada, cpa, rfl, hrow⟩ := own_shape hra
  have bra := World.ownsRow.lt hra
  have hS0 : IntKind.i64.wrap (S (early t (A.take 0))) = 0 := by simp [early, S_nil, IntKind.wrap_i64]
  go_wp2
  go_loopg [12, 13, 14] A.length (fun gk wt s i wr => ∃ (k : Nat) (vr : Value), k + gk = A.length ∧ i = .int .i64 (k : Int) ∧ vr = s ∧ wt = .int .i64 (IntKind.i64.wrap (S (early t (A.take k)))) ∧ wr.ownsRow wD.heap.size 31 2 vr (later t (A.take k)).length (flat (later t (A.take k))) ∧ Kept wD.heap.size (fun _ => False) wD wr)
  case atStart => exact ⟨0, _, by omega, rfl, rfl, by rw [hS0], World.ownsRow_nil _ _ _ _, Kept.refl _ _ _⟩
  case round =>
    obtain ⟨k, vr, hk, rfl, rfl, rfl, hrr, hKr⟩ := hrel
    have HK : Hid (k + gk = A.length) := hk
    have hkl : k ≤ A.length := by omega
    clear hk hS0
    obtain ⟨Q, hQ⟩ : ∃ Q, Q = IntKind.i64.wrap (S (early t (A.take k))) := ⟨_, rfl⟩
    rw [← hQ]
    have HQ : Hid (Q = IntKind.i64.wrap (S (early t (A.take k)))) := hQ
    clear hQ
    by_cases hlt : k < A.length
    · obtain ⟨g, rfl, hR0⟩ := hrow (by omega)
      have hRk := hR0.kept hKr hR0.lt.2 (fun h => h)
      have q0 := hRk.c0 k hlt
      have q1 := hRk.c1 k hlt
      have lg := hRk.lt
      have HT := take_snoc A k hlt
      have HTT : Hid (A.take k ++ [(at' A k, pr' A k)] = A.take (k + 1)) := HT
      have hkI : (k : Int) < (A.length : Int) := by omega
      clear HT hR0 hrow
      by_cases hle : at' A k ≤ t
      · go_wp2
        go_roundg (A.length - (k + 1))
        case measure => have := HK.out; omega
        case rel =>
          refine ⟨k + 1, vr, by omega, by go_num, rfl, ?_, ?_, hKr⟩
          · rw [← HTT.out, early_snoc, if_pos hle, S_append, S_cons, S_nil, HQ.out, wrap64_eq, wrap_add, Int.add_zero]
          · rw [← HTT.out, later_snoc, if_pos hle, List.append_nil]; exact hrr
      · have hsz := hKr.size
        have brr := World.ownsRow.lt hrr
        have hown : Hid ((wr.alloc (.cells #[.int .i64 (at' A k), .int .i64 (pr' A k)] 31)).ownsRow wD.heap.size 31 2 vr (later t (A.take k)).length (flat (later t (A.take k)))) := own_keep hrr (fun g hg => Below.heap_alloc _ _ _ (brr g hg).2)
        have hbc : Hid (∀ j u, (enc (at' A k, pr' A k))[j]? = some u → (wr.alloc (.cells #[.int .i64 (at' A k), .int .i64 (pr' A k)] 31)).cell? ((⟨wr.heap.size, 0, none⟩ : Addr).add j) = some u) := box_cells wr (at' A k, pr' A k)
        have hll : (later t (A.take k)).length ≤ 2000 := by have := later_len t (A.take k); rw [List.length_take] at this; omega
        go_wp2_with (at_builtin; refine wpList_app rfl (.tmp 48) (.tmp 53) rfl wD.heap.size vr (later t (A.take k)) (at' A k, pr' A k) rfl hown.out ⟨wr.heap.size, 0, none⟩ 1 rfl hbc.out hll (by simp; omega) ?_)
        intro g2 cap2 w4 hrow4 hgrow hw
        have hK4 : Kept wD.heap.size (fun _ => False) wD w4 := (hKr.alloc hsz _).grown hgrow (by simp; omega) (fun k hk => (brr k hk).1)
        clear hgrow hw hown hbc hrr
        go_wp2
        go_roundg (A.length - (k + 1))
        case measure => have := HK.out; omega
        case rel =>
          refine ⟨k + 1, _, by omega, by go_num, rfl, ?_, ?_, hK4⟩
          · rw [← HTT.out, early_snoc, if_neg (by show ¬ at' A k ≤ t; omega), List.append_nil, HQ.out]
          · rw [← HTT.out, later_snoc, if_neg (by show ¬ at' A k ≤ t; omega)]
            have := own_row hrow4
            rw [List.length_append, List.length_singleton] at this
            rw [List.length_append, List.length_singleton]
            exact this
    · have hkA : A.take k = A := List.take_of_length_le (by omega)
      rw [hkA] at hrr HQ
      have hPQ : P = Q := by rw [HP.out, HQ.out]
      subst hPQ
      have hH2 : Hs wr bh (bh + 1) v' m hp' := by
        have b3 := World.ownsRow.lt hH'.hr
        exact ⟨hH'.hb.kept hKr hH'.hb.lt (fun h => h), own_keep hH'.hr (fun g hg => hKr.block g (b3 g hg).2 (fun h => h)), hH'.lo, by have := hH'.hi; have := hKr.size; omega⟩
      have hsame := same_any (bh + 1) v' vr m (later t A) wr hH2.hr (own_base hrr hH'.hi) HSP.out.symm (by omega)
      have HSM : Hid (Calls Yba.prog 7 #[v', vr] wr fun r w' => r = .returned (.bool true) ∧ Below wr.heap.size wr w') := hsame
      have c0 : wr.cell? ⟨bh, 0, none⟩ = some v' := (hH2.hb.cell 0).trans rfl
      have hblr : Below bh w wr := hbl.trans (hKr.below (by have := hH'.hi; omega) (fun _ h => h.elim))
      have hltd : decide ((k : Int) < (A.length : Int)) = false := by simp; omega
      clear hsame hrow hra bra hKr hH' hbl hrr
      go_wp2_with fail
      refine HSM.out.mono ?_
      rintro _ wS ⟨rfl, hbS⟩
      have hH3 : Hs wS bh (bh + 1) v' m hp' := by
        have b3 := World.ownsRow.lt hH2.hr
        exact ⟨hH2.hb.keep (hbS.block bh hH2.hb.lt), own_keep hH2.hr (fun g hg => hbS.block g (b3 g hg).2), hH2.lo, by have := hH2.hi; have := hbS.size; omega⟩
      have hinv := inv_any bh (bh + 1) v' m hp' wS hH3 hI' (by omega)
      have HIV : Hid (Calls Yba.prog 8 #[.pointer (some ⟨bh, 0, none⟩)] wS fun r w' => r = .returned (.bool true) ∧ ∃ m, w' = wS.drewN m) := hinv
      have hbz : Below bh wr wS := ⟨hbS.os, hbS.tape, hbS.output, hbS.size, fun k hk => hbS.block k (by have := hH2.hi; omega)⟩
      clear hinv HSM c0
      go_wp2_with fail
      refine HIV.out.mono ?_
      rintro _ _ ⟨rfl, d, rfl⟩
      go_wp2
      go_ret
      have hf := hblr.trans hbz
      rw [HBH.out] at hf
      exact ⟨rfl, hf.os, hf.tape, hf.output, hf.size, hf.block⟩

#print axioms model_walk
end Go.Proofs.Ybulkcfwe
