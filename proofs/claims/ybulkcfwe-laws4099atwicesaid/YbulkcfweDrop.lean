/-
  The contracts of (*ends).earliest, (*ends).heapDropUntil, (*ends).dropUntil.
-/
import Derived.Test.YbulkcfwePop
namespace Go.Proofs.Ybulkcfwe
open Go.RowKit

set_option maxRecDepth 100000 in
set_option maxHeartbeats 2000000 in
theorem earliest_any (bh base g cap : Nat) (l : List E) (hp : Bool) (w : World) (hb : Blk w bh 34 [.slice (some ⟨g, 0, none⟩) l.length cap, .bool hp]) (hr : Row w base g cap l) (h0 : 0 < l.length) (hl : l.length ≤ 2000) :
    Calls Yba.prog 15 #[.pointer (some ⟨bh, 0, none⟩)] w fun r w' => r = .returned (.agg #[.int .i64 (firstOf l hp).1, .int .i64 (firstOf l hp).2]) ∧ Kept w.heap.size (fun _ => False) w w' := by
  have hg := hr.lt
  have lbh := hb.lt
  obtain ⟨n, hn⟩ : ∃ n, l.length = n + 1 := ⟨l.length - 1, by omega⟩
  have c0 : w.cell? ⟨bh, 0, none⟩ = some (.slice (some ⟨g, 0, none⟩) (n + 1) cap) := (hb.cell 0).trans (by rw [hn]; rfl)
  have c1 : w.cell? ⟨bh, 1, none⟩ = some (.bool hp) := (hb.cell 1).trans rfl
  have hwr : IntKind.i64.wrap (n : Int) = (n : Int) := by rw [IntKind.wrap_i64]; omega
  have hn2 : n ≤ 2000 := by omega
  cases hp with
  | true =>
    have cn0 := hr.c0 0 (by omega)
    have cn1 := hr.c1 0 (by omega)
    have e1 : firstOf l true = (at' l 0, pr' l 0) := rfl
    rw [e1]
    clear hn h0 hl
    go_enter Yba.func15, Yba.ntmps15
    go_wp2
    refine bodyPost_ret (v := .agg #[.int .i64 (at' l 0), .int .i64 (pr' l 0)]) (by simp [results, Yba.results15, go_sem]) rfl ⟨rfl, ?_⟩
    exact (Kept.refl _ _ _).alloc (Nat.le_refl _) _
  | false =>
    have cn0 := hr.c0 n (by omega)
    have cn1 := hr.c1 n (by omega)
    have e1 : firstOf l false = (at' l n, pr' l n) := by unfold firstOf; rw [hn]; rfl
    rw [e1]
    clear hn h0 hl
    go_enter Yba.func15, Yba.ntmps15
    go_upto_region 3 with fail
    go_region
    all_goals go_wp2
    refine bodyPost_ret (v := .agg #[.int .i64 (at' l n), .int .i64 (pr' l n)]) (by simp [results, Yba.results15, go_sem]) rfl ⟨rfl, ?_⟩
    exact ((Kept.refl _ _ _).alloc (Nat.le_refl _) _).drew

theorem field0 (a b : Int) (w : World) : (Instr.field 31 (.agg #[.int .i64 a, .int .i64 b]) 0).run Yba.prog w = .ok (.int .i64 a) w := by kernel_rfl
theorem field1 (a b : Int) (w : World) : (Instr.field 31 (.agg #[.int .i64 a, .int .i64 b]) 1).run Yba.prog w = .ok (.int .i64 b) w := by kernel_rfl

theorem wrap64_eq (n : Int) : wrap64 n = IntKind.i64.wrap n := by rw [IntKind.wrap_i64]; unfold wrap64; rfl
theorem first_min (m : List E) (hp : Bool) (hI : Inv m hp) (h0 : 0 < m.length) : ∀ e ∈ m, (firstOf m hp).1 ≤ e.1 := by
  intro e he
  obtain ⟨i, hi, hie⟩ := mem_at he
  rw [← hie]
  cases hp with
  | true => exact heap_top m hI.1 (i + 1) i (by omega) hi
  | false =>
    have := desc_le m hI (m.length - 1 - i) i (by omega)
    rw [show i + (m.length - 1 - i) = m.length - 1 by omega] at this
    exact this

set_option maxRecDepth 100000 in
set_option maxHeartbeats 2000000 in
theorem heapDrop_any (bh base g cap : Nat) (l0 : List E) (hp0 : Bool) (t : Int) (w : World) (hb : Blk w bh 34 [.slice (some ⟨g, 0, none⟩) l0.length cap, .bool hp0]) (hr : Row w base g cap l0) (lo : bh < base) (hI : Inv l0 hp0) (hl : l0.length ≤ 2000) :
    Calls Yba.prog 10 #[.pointer (some ⟨bh, 0, none⟩), .int .i64 t] w fun r w' => ∃ R m hp', r = .returned (.int .i64 (IntKind.i64.wrap (S R))) ∧ Blk w' bh 34 [.slice (some ⟨g, 0, none⟩) m.length cap, .bool hp'] ∧ Row w' base g cap m ∧ l0.Perm (R ++ m) ∧ (∀ e ∈ R, e.1 ≤ t) ∧ (∀ e ∈ m, t < e.1) ∧ Inv m hp' ∧ Kept w.heap.size (fun x => x = bh ∨ x = g) w w' := by
  have hS0 : IntKind.i64.wrap (S []) = 0 := by rw [S_nil, IntKind.wrap_i64]; rfl
  go_enter Yba.func10, Yba.ntmps10
  go_wp2
  go_loopg [5] l0.length (fun gk s wr => ∃ (m : List E) (hp : Bool) (R : List E), m.length = gk ∧ s = .int .i64 (IntKind.i64.wrap (S R)) ∧ Blk wr bh 34 [.slice (some ⟨g, 0, none⟩) m.length cap, .bool hp] ∧ Row wr base g cap m ∧ l0.Perm (R ++ m) ∧ (∀ e ∈ R, e.1 ≤ t) ∧ Inv m hp ∧ Kept w.heap.size (fun x => x = bh ∨ x = g) w wr)
  case atStart => exact ⟨l0, hp0, [], rfl, by rw [hS0], hb, hr, List.Perm.refl _, (fun e he => by simp at he), hI, Kept.refl _ _ _⟩
  case round =>
    obtain ⟨m, hp, R, hmg, rfl, hbm, hrm, hpm, hRm, hIm, hKm⟩ := hrel
    clear hS0 hb hr
    have hml : m.length ≤ 2000 := by have := hpm.length_eq; rw [List.length_append] at this; omega
    have HMG : Hid (m.length = gk) := hmg
    clear hmg
    have c0 : wr.cell? ⟨bh, 0, none⟩ = some (.slice (some ⟨g, 0, none⟩) m.length cap) := (hbm.cell 0).trans rfl
    obtain ⟨P, hP⟩ : ∃ P, P = IntKind.i64.wrap (S R) := ⟨_, rfl⟩
    rw [← hP]
    have HP : Hid (P = IntKind.i64.wrap (S R)) := hP
    clear hP
    by_cases h0 : m.length = 0
    · have hm0 : m = [] := List.eq_nil_of_length_eq_zero h0
      subst hm0
      have hdz : decide ((0 : Int) < ((0 : Nat) : Int)) = false := by simp
      have c0' : wr.cell? ⟨bh, 0, none⟩ = some (.slice (some ⟨g, 0, none⟩) 0 cap) := c0
      clear c0 h0
      go_wp2
      go_ret
      refine ⟨R, [], hp, by rw [HP.out]; rfl, hbm, hrm, hpm, hRm, (fun e he => by simp at he), hIm, hKm⟩
    · have hpos : 0 < m.length := by omega
      obtain ⟨f, hf⟩ : ∃ f, f = firstOf m hp := ⟨_, rfl⟩
      have hmin := first_min m hp hIm hpos
      have hfin : f ∈ m := by
        rw [hf]
        unfold firstOf
        split
        · rw [List.getD_eq_getElem?_getD, List.getElem?_eq_getElem hpos]; exact List.getElem_mem _
        · rw [List.getD_eq_getElem?_getD, List.getElem?_eq_getElem (by omega)]; exact List.getElem_mem _
      have hE := earliest_any bh base g cap m hp wr hbm hrm hpos hml
      rw [← hf] at hE hmin
      have HF : Hid (f = firstOf m hp) := hf
      have HE : Hid (Calls Yba.prog 15 #[.pointer (some ⟨bh, 0, none⟩)] wr fun r w' => r = .returned (.agg #[.int .i64 f.1, .int .i64 f.2]) ∧ Kept wr.heap.size (fun _ => False) wr w') := hE
      clear hE hf
      obtain ⟨f1, f2⟩ := f
      have hposI : (0 : Int) < (m.length : Int) := by omega
      have hfd0 := field0 f1 f2
      have hfd1 := field1 f1 f2
      go_wp2_with fail
      refine HE.out.mono ?_
      rintro _ w2 ⟨rfl, hK2⟩
      clear HE
      have hb2 := hbm.kept hK2 hbm.lt (fun h => h)
      have hr2 := hrm.kept hK2 hrm.lt.2 (fun h => h)
      have hK2' : Kept w.heap.size (fun x => x = bh ∨ x = g) w w2 := hKm.trans (hK2.mono hKm.size (fun _ h => h.elim))
      clear hbm hrm hKm hK2 c0
      by_cases hle : f1 ≤ t
      · have hE := earliest_any bh base g cap m hp w2 hb2 hr2 hpos hml
        rw [← HF.out] at hE
        have HE : Hid (Calls Yba.prog 15 #[.pointer (some ⟨bh, 0, none⟩)] w2 fun r w' => r = .returned (.agg #[.int .i64 f1, .int .i64 f2]) ∧ Kept w2.heap.size (fun _ => False) w2 w') := hE
        clear hE
        go_wp2_with fail
        refine HE.out.mono ?_
        rintro _ w3 ⟨rfl, hK3⟩
        have hb3 := hb2.kept hK3 hb2.lt (fun h => h)
        have hr3 := hr2.kept hK3 hr2.lt.2 (fun h => h)
        have hK3' : Kept w.heap.size (fun x => x = bh ∨ x = g) w w3 := hK2'.trans (hK3.mono hK2'.size (fun _ h => h.elim))
        have hQ := pop_any bh base g cap m hp w3 hb3 hr3 lo hIm hpos hml
        rw [← HF.out] at hQ
        have HQ : Hid (Calls Yba.prog 16 #[.pointer (some ⟨bh, 0, none⟩)] w3 fun r w' => r = .returned (.tuple #[]) ∧ ∃ b hp', Blk w' bh 34 [.slice (some ⟨g, 0, none⟩) b.length cap, .bool hp'] ∧ Row w' base g cap b ∧ m.Perm ((f1, f2) :: b) ∧ Inv b hp' ∧ Kept w3.heap.size (fun x => x = bh ∨ x = g) w3 w') := hQ
        clear hQ HE hb2 hr2 hK2' hK3
        go_wp2_with fail
        refine HQ.out.mono ?_
        rintro _ w4 ⟨rfl, b, hp', hb4, hr4, hp4, hI4, hK4⟩
        go_wp2
        go_roundg b.length
        case measure => have h1 := HMG.out; have h2 := hp4.length_eq; simp at h2; omega
        case rel =>
          refine ⟨b, hp', (f1, f2) :: R, rfl, ?_, hb4, hr4, ?_, ?_, hI4, hK3'.trans (hK4.mono hK3'.size (fun _ h => h))⟩
          · rw [HP.out, wrap64_eq, wrap_add, S_cons, Int.add_comm]
          · refine hpm.trans ?_
            refine (hp4.append_left R).trans ?_
            exact List.perm_middle
          · intro e he
            rcases List.mem_cons.1 he with rfl | he
            · exact hle
            · exact hRm e he
      · go_wp2
        go_ret
        refine ⟨R, m, hp, by rw [HP.out]; rfl, hb2, hr2, hpm, hRm, (fun e he => by have := hmin e he; have h3 : f1 ≤ e.1 := this; omega), hIm, hK2'⟩

/-- What a drop at t leaves. -/
def Dropped (w : World) (bh base : Nat) (v : Value) (l : List E) (t : Int) (r : Ending) (w' : World) : Prop :=
  ∃ R m hp' v', r = .returned (.int .i64 (IntKind.i64.wrap (S R))) ∧ Hs w' bh base v' m hp' ∧ v'.ownBlock = v.ownBlock ∧ l.Perm (R ++ m) ∧ (∀ e ∈ R, e.1 ≤ t) ∧ (∀ e ∈ m, t < e.1) ∧ Inv m hp' ∧ Kept w.heap.size (fun x => x = bh ∨ v.ownBlock = some x) w w'

theorem slice_nil (w : World) : (Instr.slice 26 (.slice none 0 0) none (some (.int .i64 0)) none).run Yba.prog w = .ok (.slice none 0 0) w := by kernel_rfl

/-- The places from k on are at t or before. -/
theorem desc_split (l : List E) (k : Nat) (t : Int) (hk : k ≤ l.length) (hD : Desc l) (hd : ∀ i, k ≤ i → i < l.length → at' l i ≤ t) (he : k = 0 ∨ t < at' l (k - 1)) : (∀ e ∈ l.drop k, e.1 ≤ t) ∧ (∀ e ∈ l.take k, t < e.1) := by
  constructor
  · intro e hm
    obtain ⟨i, hi, hie⟩ := List.getElem_of_mem hm
    rw [List.length_drop] at hi
    rw [List.getElem_drop] at hie
    have := hd (k + i) (by omega) (by omega)
    rw [at_get l (k + i) (by omega), hie] at this
    exact this
  · intro e hm
    obtain ⟨i, hi, hie⟩ := List.getElem_of_mem hm
    rw [List.length_take] at hi
    rw [List.getElem_take] at hie
    rcases he with he | he
    · omega
    · have h1 := desc_le l hD (k - 1 - i) i (by omega)
      rw [show i + (k - 1 - i) = k - 1 by omega, at_get l i (by omega), hie] at h1
      omega
theorem S_drop (l : List E) (k : Nat) (hk : k < l.length) : S (l.drop k) = pr' l k + S (l.drop (k + 1)) := by
  rw [List.drop_eq_getElem_cons hk, S_cons]
  unfold pr'
  rw [List.getD_eq_getElem?_getD, List.getElem?_eq_getElem hk]
  rfl

set_option maxRecDepth 100000 in
set_option maxHeartbeats 2000000 in
theorem drop_any (bh base : Nat) (v : Value) (l : List E) (hp : Bool) (t : Int) (w : World) (hH : Hs w bh base v l hp) (hI : Inv l hp) (hl : l.length ≤ 2000) :
    Calls Yba.prog 6 #[.pointer (some ⟨bh, 0, none⟩), .int .i64 t] w fun r w' => Dropped w bh base v l t r w' := by
  have lo := hH.lo
  have hi := hH.hi
  have lbh := hH.hb.lt
  have c1 : w.cell? ⟨bh, 1, none⟩ = some (.bool hp) := (hH.hb.cell 1).trans rfl
  cases hp with
  | true =>
    obtain ⟨g, cap, rfl, hr⟩ := hH.row (by have := hI.2; omega)
    have hcon := heapDrop_any bh base g cap l true t w hH.hb hr lo hI hl
    have HC : Hid (Calls Yba.prog 10 #[.pointer (some ⟨bh, 0, none⟩), .int .i64 t] w fun r w' => ∃ R m hp', r = .returned (.int .i64 (IntKind.i64.wrap (S R))) ∧ Blk w' bh 34 [.slice (some ⟨g, 0, none⟩) m.length cap, .bool hp'] ∧ Row w' base g cap m ∧ l.Perm (R ++ m) ∧ (∀ e ∈ R, e.1 ≤ t) ∧ (∀ e ∈ m, t < e.1) ∧ Inv m hp' ∧ Kept w.heap.size (fun x => x = bh ∨ x = g) w w') := hcon
    clear hcon hH hr hI
    go_enter Yba.func6, Yba.ntmps6
    go_wp2_with fail
    refine HC.out.mono ?_
    rintro _ w2 ⟨R, m, hp', rfl, h1, h2, h3, h4, h5, h6, h7⟩
    have hfin : Hid (Hs w2 bh base (.slice (some ⟨g, 0, none⟩) m.length cap) m hp' ∧ l.Perm (R ++ m) ∧ (∀ e ∈ R, e.1 ≤ t) ∧ (∀ e ∈ m, t < e.1) ∧ Inv m hp' ∧ Kept w.heap.size (fun x => x = bh ∨ (Value.slice (some ⟨g, 0, none⟩) l.length cap).ownBlock = some x) w w2) :=
      ⟨⟨h1, own_row h2, lo, by have := h7.size; omega⟩, h3, h4, h5, h6, h7.mono (Nat.le_refl _) (fun k hk => hk.imp id (fun h => by rw [h]; rfl))⟩
    clear h1 h2 h3 h4 h5 h6 h7 HC
    generalize hq : IntKind.i64.wrap (S R) = q
    go_wp2
    go_ret
    obtain ⟨g1, g2, g3, g4, g5, g6⟩ := hfin.out
    exact ⟨R, m, hp', _, by rw [hq]; rfl, g1, rfl, g2, g3, g4, g5, g6⟩
  | false =>
    have hD : Desc l := hI
    have hsh : ∃ ad cap0, v = .slice ad l.length cap0 := by
      rcases hH.hr.2 with ⟨h1, h2⟩ | ⟨g, cap, cur, h1, _⟩
      · exact ⟨none, 0, by rw [h1, h2]⟩
      · exact ⟨some ⟨g, 0, none⟩, cap, h1⟩
    obtain ⟨ad, cap0, hv⟩ := hsh
    subst hv
    have hshape : (ad = none ∧ l.length = 0 ∧ cap0 = 0) ∨ ∃ g, ad = some ⟨g, 0, none⟩ ∧ Row w base g cap0 l := by
      have hr0 := hH.hr
      rcases hr0.2 with ⟨h1, h2⟩ | ⟨g, cap, cur, h1, _⟩
      · simp only [Value.slice.injEq] at h1
        exact Or.inl ⟨h1.1, h1.2.1, h1.2.2⟩
      · simp only [Value.slice.injEq, true_and] at h1
        obtain ⟨rfl, rfl⟩ := h1
        exact Or.inr ⟨g, rfl, hr0⟩
    have c0 : w.cell? ⟨bh, 0, none⟩ = some (.slice ad l.length cap0) := (hH.hb.cell 0).trans rfl
    have f0 := hH.hb.free 0
    have hS0 : IntKind.i64.wrap (S (l.drop l.length)) = 0 := by rw [List.drop_length, S_nil, IntKind.wrap_i64]; rfl
    go_enter Yba.func6, Yba.ntmps6
    go_wp2
    go_loopg [5, 6] l.length (fun gk s i wr => gk ≤ l.length ∧ i = .int .i64 (gk : Int) ∧ s = .int .i64 (IntKind.i64.wrap (S (l.drop gk))) ∧ (∀ j, gk ≤ j → j < l.length → at' l j ≤ t) ∧ ∃ d, wr = w.drewN d)
    case atStart => exact ⟨Nat.le_refl _, rfl, by rw [hS0], fun j h1 h2 => by omega, 0, rfl⟩
    case round =>
      obtain ⟨hkl, rfl, rfl, hd, d, rfl⟩ := hrel
      clear hS0
      obtain ⟨P, hP⟩ : ∃ P, P = IntKind.i64.wrap (S (l.drop gk)) := ⟨_, rfl⟩
      rw [← hP]
      have HP : Hid (P = IntKind.i64.wrap (S (l.drop gk))) := hP
      have HD : Hid (∀ j, gk ≤ j → j < l.length → at' l j ≤ t) := hd
      clear hP hd
      rcases hshape with ⟨rfl, hl0, rfl⟩ | ⟨g, rfl, hr⟩
      · have hnil : l = [] := List.eq_nil_of_length_eq_zero hl0
        subst hnil
        have hg0 : gk = 0 := by simpa using hkl
        subst hg0
        have hsn := slice_nil
        have hdz : decide ((0 : Int) < ((0 : Nat) : Int)) = false := by simp
        have c0' : w.cell? ⟨bh, 0, none⟩ = some (.slice none 0 0) := c0
        have HH : Hid (Hs ((w.setCell ⟨bh, 0, none⟩ (.slice none 0 0)).drewN d) bh base (.slice none 0 0) [] false) := by
          refine ⟨hH.hb.set 0 _, World.ownsRow_nil _ _ _ _, lo, by simp [World.setCell, World.drewN]; omega⟩
        clear c0 hH
        go_wp2
        go_ret
        exact ⟨[], [], false, .slice none 0 0, by rw [HP.out]; rfl, HH.out, rfl, List.Perm.refl _, (fun e he => by simp at he), (fun e he => by simp at he), hD, Kept.setCell (p := fun x => x = bh ∨ (Value.slice none (([] : List E).length) 0).ownBlock = some x) (x := ⟨bh, 0, none⟩) ((Kept.refl _ _ _).drewN _) (Or.inl (Or.inl rfl)) _⟩
      · have hg := hr.lt
        have hcap := hr.cap
        have hkcap : gk ≤ cap0 := by omega
        have hfin : Hid (∀ d, (gk = 0 ∨ t < at' l (gk - 1)) → Hs ((w.setCell ⟨bh, 0, none⟩ (.slice (some ⟨g, 0, none⟩) gk cap0)).drewN d) bh base (.slice (some ⟨g, 0, none⟩) gk cap0) (l.take gk) false ∧ l.Perm (l.drop gk ++ l.take gk) ∧ (∀ e ∈ l.drop gk, e.1 ≤ t) ∧ (∀ e ∈ l.take gk, t < e.1) ∧ Inv (l.take gk) false ∧ Kept w.heap.size (fun x => x = bh ∨ (Value.slice (some ⟨g, 0, none⟩) l.length cap0).ownBlock = some x) w ((w.setCell ⟨bh, 0, none⟩ (.slice (some ⟨g, 0, none⟩) gk cap0)).drewN d)) := fun d he => by
          have hlt : (l.take gk).length = gk := by rw [List.length_take]; omega
          have hr2 : Row (w.setCell ⟨bh, 0, none⟩ (.slice (some ⟨g, 0, none⟩) gk cap0)) base g cap0 (l.take gk) := (hr.take gk hkl).keep (Below.heap_setCell _ _ _ _ (by show g ≠ bh; omega))
          obtain ⟨s1, s2⟩ := desc_split l gk t hkl hD HD.out he
          refine ⟨⟨hH.hb.set 0 _, ?_, lo, by simp [World.setCell, World.drewN]; omega⟩, ?_, s1, s2, desc_take l gk hkl hD, (Kept.setCell (p := fun x => x = bh ∨ (Value.slice (some ⟨g, 0, none⟩) l.length cap0).ownBlock = some x) (x := ⟨bh, 0, none⟩) (Kept.refl _ _ _) (Or.inl (Or.inl rfl)) _).drewN d⟩
          · have := own_row hr2
            rw [hlt] at this
            rw [hlt]
            exact this
          · conv => lhs; rw [← List.take_append_drop gk l]
            exact List.perm_append_comm
        clear hH
        by_cases h0 : gk = 0
        · subst h0
          have hdz : decide ((0 : Int) < ((0 : Nat) : Int)) = false := by simp
          go_wp2
          go_ret
          obtain ⟨g1, g2, g3, g4, g5, g6⟩ := hfin.out d (Or.inl (by trivial))
          exact ⟨_, _, false, _, by rw [HP.out]; rfl, g1, rfl, g2, g3, g4, g5, g6⟩
        · obtain ⟨p, hp⟩ : ∃ p, gk = p + 1 := ⟨gk - 1, by omega⟩
          subst hp
          have cp0 := hr.c0 p (by omega)
          have cp1 := hr.c1 p (by omega)
          have hpl : p + 1 ≤ l.length := hkl
          have hwp : IntKind.i64.wrap (p : Int) = (p : Int) := by rw [IntKind.wrap_i64]; omega
          have hpI : (p : Int) < (l.length : Int) := by omega
          by_cases hle : at' l p ≤ t
          · go_wp2
            go_roundg p
            case measure => omega
            case rel =>
              refine ⟨by omega, rfl, ?_, ?_, d, rfl⟩
              · rw [HP.out, wrap64_eq, wrap_add, S_drop l p (by omega), Int.add_comm]
              · intro j h1 h2
                by_cases hjp : j = p
                · rw [hjp]; exact hle
                · exact HD.out j (by omega) h2
          · have hled : decide (at' l p ≤ t) = false := by simpa using hle
            go_wp2
            go_ret
            obtain ⟨g1, g2, g3, g4, g5, g6⟩ := hfin.out d (Or.inr (by show t < at' l p; omega))
            exact ⟨_, _, false, _, by rw [HP.out]; rfl, g1, rfl, g2, g3, g4, g5, g6⟩
end Go.Proofs.Ybulkcfwe
