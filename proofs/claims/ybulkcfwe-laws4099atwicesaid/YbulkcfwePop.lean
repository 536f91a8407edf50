/-
  The contracts of (*ends).orderFew, (*ends).pop.
-/
import Derived.Test.YbulkcfweSort
namespace Go.Proofs.Ybulkcfwe
open Go.RowKit

theorem Row.take {w : World} {base g cap : Nat} {l : List E} (h : Row w base g cap l) (m : Nat) (hm : m ≤ l.length) : Row w base g cap (l.take m) := by
  obtain ⟨h1, h2⟩ := h
  rcases h2 with ⟨h2, _⟩ | ⟨g', cap', cur, hv, hb, hg, hn, hmx, hcs, ht⟩
  · simp at h2
  simp only [Value.slice.injEq, Option.some.injEq, Addr.mk.injEq, and_true, true_and] at hv
  obtain ⟨rfl, rfl⟩ := hv
  have hlt : (l.take m).length = m := by rw [List.length_take]; omega
  have hf : flat (l.take m) = (flat l).take (m * 2) := by
    apply List.ext_getElem?
    intro t
    by_cases hx : t < m * 2
    · have h3 := flat_get enc 2 (fun _ => rfl) (l.take m) (t / 2) (t % 2) (by omega)
      have h4 := flat_get enc 2 (fun _ => rfl) l (t / 2) (t % 2) (by omega)
      rw [show t / 2 * 2 + t % 2 = t by omega] at h3 h4
      unfold flat
      rw [List.getElem?_take_of_lt hx, h3, h4, List.getElem?_take_of_lt (by omega)]
    · rw [List.getElem?_take_eq_none (by omega), List.getElem?_eq_none (by rw [flat_length, hlt]; omega)]
  unfold Row
  rw [hlt, hf]
  refine ⟨by rw [List.length_take, flat_length]; omega, Or.inr ⟨g, cap, cur, rfl, hb, hg, by omega, hmx, hcs, ?_⟩⟩
  rw [← ht, List.take_take]
  congr 1
  omega

theorem at_take (l : List E) (m i : Nat) (hi : i < m) : at' (l.take m) i = at' l i := by
  unfold at'; rw [List.getD_eq_getElem?_getD, List.getElem?_take_of_lt hi, List.getD_eq_getElem?_getD]
theorem heap_take (l : List E) (m : Nat) (hm : m ≤ l.length) (h : IsHeap l) : IsHeap (l.take m) := by
  intro j h0 hj
  rw [List.length_take] at hj
  rw [at_take _ _ _ (by omega), at_take _ _ _ (by omega)]
  exact h j h0 (by omega)
theorem desc_take (l : List E) (m : Nat) (hm : m ≤ l.length) (h : Desc l) : Desc (l.take m) := by
  intro i hi
  rw [List.length_take] at hi
  rw [at_take _ _ _ (by omega), at_take _ _ _ (by omega)]
  exact h i (by omega)
/-- The last end goes to the head's place. -/
theorem perm_head (l : List E) (n : Nat) (hl : l.length = n + 1) (hn : 0 < n) : l.Perm (l.getD 0 (0, 0) :: (l.take n).set 0 (l.getD n (0, 0))) := by
  match l, hl with
  | a :: t, hl =>
    have ht : t.length = n := by simpa using hl
    obtain ⟨m, rfl⟩ : ∃ m, n = m + 1 := ⟨n - 1, by omega⟩
    have e1 : (a :: t).getD 0 (0, 0) = a := rfl
    have e2 : ((a :: t).take (m + 1)).set 0 ((a :: t).getD (m + 1) (0, 0)) = t.getD m (0, 0) :: t.take m := by simp
    rw [e1, e2]
    refine List.Perm.cons a ?_
    have e3 : t = t.take m ++ [t.getD m (0, 0)] := by
      have := (List.take_append_drop m t).symm
      rw [List.drop_eq_getElem_cons (by omega), List.drop_eq_nil_of_le (by omega)] at this
      rw [List.getD_eq_getElem?_getD, List.getElem?_eq_getElem (by omega)]
      exact this
    conv => lhs; rw [e3]
    exact List.perm_append_comm
theorem perm_last (l : List E) (n : Nat) (hl : l.length = n + 1) : l.Perm (l.getD n (0, 0) :: l.take n) := by
  have e3 : l = l.take n ++ [l.getD n (0, 0)] := by
    have := (List.take_append_drop n l).symm
    rw [List.drop_eq_getElem_cons (by omega), List.drop_eq_nil_of_le (by omega)] at this
    rw [List.getD_eq_getElem?_getD, List.getElem?_eq_getElem (by omega)]
    exact this
  conv => lhs; rw [e3]
  exact List.perm_append_comm

set_option maxRecDepth 100000 in
set_option maxHeartbeats 2000000 in
theorem orderFew_any (bh base g cap : Nat) (l : List E) (w : World) (hb : Blk w bh 34 [.slice (some ⟨g, 0, none⟩) l.length cap, .bool true]) (hr : Row w base g cap l) (lo : bh < base) (hI : IsHeap l) (hl : l.length ≤ 2000) :
    Calls Yba.prog 23 #[.pointer (some ⟨bh, 0, none⟩)] w fun r w' => r = .returned (.tuple #[]) ∧ ∃ b hp', Blk w' bh 34 [.slice (some ⟨g, 0, none⟩) l.length cap, .bool hp'] ∧ Row w' base g cap b ∧ b.Perm l ∧ b.length = l.length ∧ Inv b hp' ∧ Kept w.heap.size (fun x => x = bh ∨ x = g) w w' := by
  have c0 : w.cell? ⟨bh, 0, none⟩ = some (.slice (some ⟨g, 0, none⟩) l.length cap) := (hb.cell 0).trans rfl
  have hg := hr.lt
  by_cases h32 : l.length ≤ 32
  · have eg : ∀ args w, (callFunc 35 args).run Yba.prog w = .ok (.enter 35 args) w := enters_of Yba.func35 (by kernel_rfl) rfl
    have hcon := sort_any 35 cfD swoD eg closure35 base g cap l w hr hl
    have HC : Hid (Calls Yba.prog 12 #[.slice (some ⟨g, 0, none⟩) l.length cap, .func (.func 35) #[] #[]] w fun e w' => e = .returned (.tuple #[]) ∧ ∃ l' : List E, l'.length = l.length ∧ l'.Perm l ∧ Go.Sort.SortedIn (ltOf cfD) 0 l'.length l'.toArray ∧ Row w' base g cap l' ∧ Kept w.heap.size (fun x => x = g) w w') := hcon
    clear hcon eg
    go_enter Yba.func23, Yba.ntmps23
    go_wp2_with fail
    refine HC.out.mono ?_
    rintro _ w2 ⟨rfl, l', hl', hp', hs', hr2, hK2⟩
    have hb2 := hb.kept hK2 hb.lt (by omega)
    have c1 : w2.cell? ⟨bh, 1, none⟩ = some (.bool true) := (hb2.cell 1).trans rfl
    have f1 := hb2.free 1
    have hD := sortedD hs'
    clear HC hs'
    go_wp2
    go_end0
    refine ⟨rfl, ?_⟩
    have hfin : ∃ b, Blk (w2.setCell ⟨bh, 1, none⟩ (.bool false)) bh 34 [.slice (some ⟨g, 0, none⟩) l.length cap, .bool false] ∧ Row (w2.setCell ⟨bh, 1, none⟩ (.bool false)) base g cap b ∧ b.Perm l ∧ b.length = l.length ∧ Inv b false ∧ Kept w.heap.size (fun x => x = bh ∨ x = g) w (w2.setCell ⟨bh, 1, none⟩ (.bool false)) :=
      ⟨l', hb2.set 1 (.bool false), hr2.keep (Below.heap_setCell _ _ _ _ (by show g ≠ bh; omega)), hp', hl', hD, Kept.setCell (p := fun x => x = bh ∨ x = g) (x := ⟨bh, 1, none⟩) (hK2.mono (Nat.le_refl _) (fun k hk => Or.inr hk)) (Or.inl (Or.inl rfl)) _⟩
    obtain ⟨b, hh⟩ := hfin
    first | exact ⟨b, false, hh⟩ | exact ⟨b, Or.inl hh⟩
  · have hId : Inv l true := ⟨hI, by omega⟩
    go_enter Yba.func23, Yba.ntmps23
    go_wp2
    go_end0
    refine ⟨rfl, ?_⟩
    first | exact ⟨l, true, hb, hr, List.Perm.refl _, rfl, hId, Kept.refl _ _ _⟩ | exact ⟨l, Or.inr ⟨hb, hr, List.Perm.refl _, rfl, hId, Kept.refl _ _ _⟩⟩

/-- Which end is taken out. -/
def firstOf (l : List E) (hp : Bool) : E := if hp then l.getD 0 (0, 0) else l.getD (l.length - 1) (0, 0)

set_option maxRecDepth 100000 in
set_option maxHeartbeats 2000000 in
theorem pop_any (bh base g cap : Nat) (l : List E) (hp : Bool) (w : World) (hb : Blk w bh 34 [.slice (some ⟨g, 0, none⟩) l.length cap, .bool hp]) (hr : Row w base g cap l) (lo : bh < base) (hI : Inv l hp) (h0 : 0 < l.length) (hl : l.length ≤ 2000) :
    Calls Yba.prog 16 #[.pointer (some ⟨bh, 0, none⟩)] w fun r w' => r = .returned (.tuple #[]) ∧ ∃ b hp', Blk w' bh 34 [.slice (some ⟨g, 0, none⟩) b.length cap, .bool hp'] ∧ Row w' base g cap b ∧ l.Perm (firstOf l hp :: b) ∧ Inv b hp' ∧ Kept w.heap.size (fun x => x = bh ∨ x = g) w w' := by
  have hg := hr.lt
  have lbh := hb.lt
  obtain ⟨n, hn⟩ : ∃ n, l.length = n + 1 := ⟨l.length - 1, by omega⟩
  have c0 : w.cell? ⟨bh, 0, none⟩ = some (.slice (some ⟨g, 0, none⟩) (n + 1) cap) := (hb.cell 0).trans (by rw [hn]; rfl)
  have c1 : w.cell? ⟨bh, 1, none⟩ = some (.bool hp) := (hb.cell 1).trans rfl
  have f0 := hb.free 0
  have hcap := hr.cap
  have hwr : IntKind.i64.wrap (n : Int) = (n : Int) := by rw [IntKind.wrap_i64]; omega
  have hlt : (l.take n).length = n := by rw [List.length_take]; omega
  have hncap : n ≤ cap := by omega
  have hb2 := hb.set 0 (.slice (some ⟨g, 0, none⟩) n cap)
  have hr2 : Row (w.setCell ⟨bh, 0, none⟩ (.slice (some ⟨g, 0, none⟩) n cap)) base g cap (l.take n) := (hr.take n (by omega)).keep (Below.heap_setCell _ _ _ _ (by show g ≠ bh; omega))
  have hK2 : Kept w.heap.size (fun x => x = bh ∨ x = g) w (w.setCell ⟨bh, 0, none⟩ (.slice (some ⟨g, 0, none⟩) n cap)) := Kept.setCell (p := fun x => x = bh ∨ x = g) (x := ⟨bh, 0, none⟩) (Kept.refl _ _ _) (Or.inl (Or.inl rfl)) _
  cases hp with
  | false =>
    have hres : ∃ b, Blk (w.setCell ⟨bh, 0, none⟩ (.slice (some ⟨g, 0, none⟩) n cap)) bh 34 [.slice (some ⟨g, 0, none⟩) b.length cap, .bool false] ∧ Row (w.setCell ⟨bh, 0, none⟩ (.slice (some ⟨g, 0, none⟩) n cap)) base g cap b ∧ l.Perm (firstOf l false :: b) ∧ Inv b false ∧ Kept w.heap.size (fun x => x = bh ∨ x = g) w (w.setCell ⟨bh, 0, none⟩ (.slice (some ⟨g, 0, none⟩) n cap)) := by
      refine ⟨l.take n, by rw [hlt]; exact hb2, hr2, ?_, desc_take l n (by omega) hI, hK2⟩
      unfold firstOf
      rw [hn]
      exact perm_last l n hn
    have HRES : Hid (∃ b, Blk (w.setCell ⟨bh, 0, none⟩ (.slice (some ⟨g, 0, none⟩) n cap)) bh 34 [.slice (some ⟨g, 0, none⟩) b.length cap, .bool false] ∧ Row (w.setCell ⟨bh, 0, none⟩ (.slice (some ⟨g, 0, none⟩) n cap)) base g cap b ∧ l.Perm (firstOf l false :: b) ∧ Inv b false ∧ Kept w.heap.size (fun x => x = bh ∨ x = g) w (w.setCell ⟨bh, 0, none⟩ (.slice (some ⟨g, 0, none⟩) n cap))) := hres
    clear hres hb hr hb2 hr2 hK2 hlt hI
    go_enter Yba.func16, Yba.ntmps16
    go_wp2
    refine bodyPost_ret (results_none rfl _ _ _) rfl ?_
    refine ⟨rfl, ?_⟩
    obtain ⟨b, hh⟩ := HRES.out
    first | exact ⟨b, false, hh⟩ | exact ⟨b, Or.inl hh⟩
  | true =>
    have hI1 : IsHeap l := hI.1
    have hI2 : 32 < l.length := hI.2
    have cn0 := hr.c0 n (by omega)
    have cn1 := hr.c1 n (by omega)
    have hn0 : 0 < n := by omega
    have HI : Hid (IsHeap l ∧ l.length = n + 1) := ⟨hI1, hn⟩
    obtain ⟨wA, hwA⟩ : ∃ wA, wA = (w.setCell ⟨bh, 0, none⟩ (.slice (some ⟨g, 0, none⟩) n cap)).alloc (.cells #[.int .i64 (at' l n), .int .i64 (pr' l n)] 31) := ⟨_, rfl⟩
    have hbA : Blk wA bh 34 [.slice (some ⟨g, 0, none⟩) n cap, .bool true] := by rw [hwA]; exact hb2.alloc _
    have hrA : Row wA base g cap (l.take n) := by rw [hwA]; exact hr2.keep (Below.heap_alloc _ _ _ hr2.lt.2)
    have hKA : Kept w.heap.size (fun x => x = bh ∨ x = g) w wA := by rw [hwA]; exact hK2.alloc hK2.size _
    have hcon := down_any bh base g cap 0 n (l.take n) (l.getD n (0, 0)) wA ((hbA.cell 0).trans rfl) hrA hlt hn0 (by omega) (down_start (l.take n) _ (heap_take l n (by omega) hI1))
    have HC : Hid (Calls Yba.prog 22 #[.pointer (some ⟨bh, 0, none⟩), .int .i64 0, .agg #[.int .i64 (at' l n), .int .i64 (pr' l n)]] wA fun r w' => r = .returned (.tuple #[]) ∧ ∃ b : List E, b.length = n ∧ Row w' base g cap b ∧ b.Perm ((l.take n).set 0 (l.getD n (0, 0))) ∧ IsHeap b ∧ Kept wA.heap.size (fun x => x = g) wA w') := hcon
    have HPH : Hid (l.Perm (l.getD 0 (0, 0) :: (l.take n).set 0 (l.getD n (0, 0)))) := perm_head l n hn hn0
    rw [hwA] at HC
    clear hI hI1 hI2 hn hcon hb2 hr2 hK2 hlt
    go_enter Yba.func16, Yba.ntmps16
    go_wp2_with fail
    refine HC.out.mono ?_
    rw [← hwA]
    rintro _ w3 ⟨rfl, b1, hl3, hr3, hp3, hh3, hK3⟩
    have hg3 := hr3.lt
    have hb3 : Blk w3 bh 34 [.slice (some ⟨g, 0, none⟩) b1.length cap, .bool true] := by rw [hl3]; exact hbA.kept hK3 hbA.lt (by omega)
    have hK3' : Kept w.heap.size (fun x => x = bh ∨ x = g) w w3 := hKA.trans (hK3.mono hKA.size (fun k hk => Or.inr hk))
    have hcon2 := orderFew_any bh base g cap b1 w3 hb3 hr3 lo hh3 (by have := HI.out.2; omega)
    have HC2 : Hid (Calls Yba.prog 23 #[.pointer (some ⟨bh, 0, none⟩)] w3 fun r w' => r = .returned (.tuple #[]) ∧ ∃ b hp', Blk w' bh 34 [.slice (some ⟨g, 0, none⟩) b1.length cap, .bool hp'] ∧ Row w' base g cap b ∧ b.Perm b1 ∧ b.length = b1.length ∧ Inv b hp' ∧ Kept w3.heap.size (fun x => x = bh ∨ x = g) w3 w') := hcon2
    clear hcon2 HC hwA hbA hrA hKA hK3 hr3 hb3 hh3 c0 c1 f0 cn0 cn1 hb hr
    go_wp2_with fail
    refine HC2.out.mono ?_
    rintro _ w4 ⟨rfl, b, hp', hb4, hr4, hp4, hl4, hI4, hK4⟩
    go_wp2
    go_end0
    refine ⟨rfl, ?_⟩
    have hfin : Blk w4 bh 34 [.slice (some ⟨g, 0, none⟩) b.length cap, .bool hp'] ∧ Row w4 base g cap b ∧ l.Perm (firstOf l true :: b) ∧ Inv b hp' ∧ Kept w.heap.size (fun x => x = bh ∨ x = g) w w4 := by
      refine ⟨by rw [hl4]; exact hb4, hr4, ?_, hI4, hK3'.trans (hK4.mono hK3'.size (fun _ h => h))⟩
      exact HPH.out.trans (((hp4.trans hp3).symm).cons _)
    first | exact ⟨b, hp', hfin⟩ | (cases hp' with
      | true => exact ⟨b, Or.inr hfin⟩
      | false => exact ⟨b, Or.inl hfin⟩)

#print axioms orderFew_any
end Go.Proofs.Ybulkcfwe
