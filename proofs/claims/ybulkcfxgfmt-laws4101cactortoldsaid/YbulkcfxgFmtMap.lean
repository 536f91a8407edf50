/-
  A map keyed by strings that the call itself makes, as a plain list of pairs: what a look-up and a store do to it, exactly.
-/
import Derived.Test.YbulkcfxgFmtBlk
import Derived.MapKept
namespace Go.Proofs.YbulkcfxgFmt
open Go.RowKit Go.MapKept

def mget : List (ByteArray × Value) → ByteArray → Option Value
  | [], _ => none
  | (k, v) :: l, s => if s = k then some v else mget l s
def mput : List (ByteArray × Value) → ByteArray → Value → List (ByteArray × Value)
  | [], s, v => [(s, v)]
  | (k, u) :: l, s, v => if s = k then (s, v) :: l else (k, u) :: mput l s v

theorem mget_mput (l : List (ByteArray × Value)) (s : ByteArray) (v : Value) (x : ByteArray) : mget (mput l s v) x = if x = s then some v else mget l x := by
  induction l with
  | nil => simp [mput, mget]
  | cons p l ih =>
    obtain ⟨k, u⟩ := p
    by_cases h : s = k
    · subst h
      have e : mput ((s, u) :: l) s v = (s, v) :: l := by simp [mput]
      rw [e]
      simp only [mget]
      by_cases hx : x = s
      · rw [if_pos hx, if_pos hx]
      · rw [if_neg hx, if_neg hx, if_neg hx]
    · simp only [mput, if_neg h, mget, ih]
      by_cases hx : x = k
      · subst hx
        rw [if_pos rfl, if_pos rfl, if_neg (fun e => h e.symm)]
      · simp [hx]
theorem mput_len (l : List (ByteArray × Value)) (s : ByteArray) (v : Value) : (mput l s v).length = if (mget l s).isSome then l.length else l.length + 1 := by
  induction l with
  | nil => simp [mput, mget]
  | cons p l ih =>
    obtain ⟨k, u⟩ := p
    by_cases h : s = k
    · subst h; simp [mput, mget]
    · simp only [mput, if_neg h, mget, List.length_cons, ih]
      split <;> rfl

/-- The entries of the map in block b, in their order: l. -/
def MapB (w : World) (b : Nat) (l : List (ByteArray × Value)) : Prop :=
  ∃ es clock, w.heap[b]? = some (.map es clock) ∧ es.toList.map (fun e => (e.key, e.val)) = l.map fun p => (Value.string p.1, p.2)

theorem findNow_list (s : ByteArray) : ∀ (es : List MapEntry) (l : List (ByteArray × Value)) (i : Nat), es.map (fun e => (e.key, e.val)) = l.map (fun p => (Value.string p.1, p.2)) →
    (mget l s = none ∧ Instr.findNow .string (.string s) es i = some none) ∨ ∃ j v, mget l s = some v ∧ Instr.findNow .string (.string s) es i = some (some (i + j, v)) ∧ (∃ e, es[j]? = some e ∧ e.key = .string s) ∧ ∀ u, (l.set j (s, u)) = mput l s u
  | [], [], i, _ => Or.inl ⟨rfl, rfl⟩
  | [], _ :: _, i, h => by simp at h
  | _ :: _, [], i, h => by simp at h
  | e :: es, (k, v) :: l, i, h => by
    simp only [List.map_cons, List.cons.injEq, Prod.mk.injEq] at h
    obtain ⟨⟨hk, hv⟩, ht⟩ := h
    by_cases hs : s = k
    · subst hs
      refine Or.inr ⟨0, v, by simp [mget], ?_, ⟨e, rfl, hk⟩, fun u => by simp [mput]⟩
      simp only [Instr.findNow, hk, Instr.sameNow]
      rw [(bytes_beq s s).2 rfl, hv]; rfl
    · have hb : (s == k) = false := by
        cases hq : (s == k) with
        | false => rfl
        | true => exact absurd ((bytes_beq s k).1 hq) hs
      have hstep : Instr.findNow .string (.string s) (e :: es) i = Instr.findNow .string (.string s) es (i + 1) := by
        simp only [Instr.findNow, hk, Instr.sameNow, hb]
      rcases findNow_list s es l (i + 1) ht with ⟨h1, h2⟩ | ⟨j, u, h1, h2, h3, h4⟩
      · exact Or.inl ⟨by simp [mget, hs, h1], by rw [hstep, h2]⟩
      · refine Or.inr ⟨j + 1, u, by simp [mget, hs, h1], by rw [hstep, h2]; congr 3; omega, ?_, fun x => by simp [mput, hs, h4 x]⟩
        obtain ⟨e0, he, hk0⟩ := h3
        exact ⟨e0, by simpa using he, hk0⟩

theorem MapB.len {w : World} {b : Nat} {l : List (ByteArray × Value)} (h : MapB w b l) : ∃ es clock, w.heap[b]? = some (.map es clock) ∧ es.size = l.length := by
  obtain ⟨es, clock, hb, hl⟩ := h
  refine ⟨es, clock, hb, ?_⟩
  have := congrArg List.length hl
  simpa using this

theorem MapB.lookup {P : Program} {w : World} {b : Nat} {l : List (ByteArray × Value)} (h : MapB w b l) {t k e : TypeId} (ht : P.underlying t = some (.map k e)) (hk : P.underlying k = some .string) {z : Value} (hz : (zeroValue e).run P w = .ok z w) (s : ByteArray) :
    (Instr.lookup t (.map (some b)) (.string s) false).run P w = .ok ((mget l s).getD z) w := by
  obtain ⟨es, clock, hb, hl⟩ := h
  have hck := run_checkKey (P := P) (w := w) hk (show IsKey .string (.string s) from trivial) es.isEmpty 9999
  rcases findNow_list s es.toList l 0 hl with ⟨h1, h2⟩ | ⟨j, v, h1, h2, _, _⟩
  · have hf := run_findKey (P := P) (w := w) hk h2
    simp [Instr.lookup, run_underlying ht, MapKept.run_getObj_map hb, hck, hf, hz, h1]
  · have hf := run_findKey (P := P) (w := w) hk h2
    simp [Instr.lookup, run_underlying ht, MapKept.run_getObj_map hb, hck, hf, h1]

/-- What a store into the map does to the world: that map's block alone. -/
structure Stored (b : Nat) (w w' : World) : Prop where
  os : w'.os = w.os
  tape : w'.tape = w.tape
  output : w'.output = w.output
  size : w'.heap.size = w.heap.size
  block : ∀ k, k ≠ b → w'.heap[k]? = w.heap[k]?

theorem MapB.update {P : Program} {w : World} {b : Nat} {l : List (ByteArray × Value)} (h : MapB w b l) {t k e : TypeId} (ht : P.underlying t = some (.map k e)) (hk : P.underlying k = some .string) (s : ByteArray) (u : Value) :
    ∃ w', (Instr.mapUpdate t (.map (some b)) (.string s) u).run P w = .ok () w' ∧ MapB w' b (mput l s u) ∧ Stored b w w' := by
  obtain ⟨es, clock, hb, hl⟩ := h
  have hck := run_checkKey (P := P) (w := w) hk (show IsKey .string (.string s) from trivial) false 9999
  have hst : ∀ o, Stored b w { w with heap := w.heap.setIfInBounds b o } := fun o => ⟨rfl, rfl, rfl, by simp, fun k hk' => (heap_set (o' := o) hb).2 k hk'⟩
  rcases findNow_list s es.toList l 0 hl with ⟨h1, h2⟩ | ⟨j, v, h1, h2, ⟨e0, he0, hk0⟩, h4⟩
  · have hf := run_findKey (P := P) (w := w) hk h2
    refine ⟨{ w with heap := w.heap.setIfInBounds b (.map (es.push { key := .string s, val := u, born := clock }) (clock + 1)) }, ?_, ⟨_, _, (heap_set hb).1, ?_⟩, hst _⟩
    · simp [Instr.mapUpdate, run_underlying ht, MapKept.run_getObj_map hb, hck, hf, MapKept.run_setObj_map _ hb]
    · have hp : ∀ (l : List (ByteArray × Value)), mget l s = none → mput l s u = l ++ [(s, u)] := by
        intro l
        induction l with
        | nil => intro _; rfl
        | cons p l ih =>
          obtain ⟨k', v'⟩ := p
          intro hn
          by_cases hs : s = k'
          · simp [mget, hs] at hn
          · simp only [mget, if_neg hs] at hn
            simp only [mput, if_neg hs, ih hn, List.cons_append]
      rw [hp l h1]
      simp [hl]
  · have hf := run_findKey (P := P) (w := w) hk h2
    rw [Nat.zero_add] at hf
    have hkeep : (Instr.keyThatStays (.string s) (.string s)).run P w = .ok (.string s) w := run_keyThatStays (d := .string) trivial
    have hget : ((es[j]?).map (·.key)).getD (.string s) = .string s := by
      rw [← Array.getElem?_toList, he0]; simp [hk0]
    refine ⟨{ w with heap := w.heap.setIfInBounds b (.map (es.modify j fun e => { e with key := .string s, val := u }) clock) }, ?_, ⟨_, _, (heap_set hb).1, ?_⟩, hst _⟩
    · simp only [Instr.mapUpdate, Sem.run_bind, run_underlying ht, Result.andThen_ok, MapKept.run_getObj_map hb, hck, hf, hget, hkeep, MapKept.run_setObj_map _ hb]
    · rw [← h4 u, List.map_set]
      rw [← hl]
      apply List.ext_getElem?
      intro i
      simp only [List.getElem?_map, List.getElem?_set, List.length_map, Array.getElem?_toList, Array.getElem?_modify, Array.length_toList]
      by_cases hij : j = i
      · subst hij
        have hlt : j < es.size := by
          rcases Nat.lt_or_ge j es.size with h' | h'
          · exact h'
          · rw [Array.getElem?_toList, Array.getElem?_eq_none h'] at he0; cases he0
        simp [hlt]
      · simp [hij]

theorem MapB.keep {w w' : World} {b : Nat} {l : List (ByteArray × Value)} (h : MapB w b l) (hk : w'.heap[b]? = w.heap[b]?) : MapB w' b l := by
  obtain ⟨es, clock, hb, hl⟩ := h
  exact ⟨es, clock, hk.trans hb, hl⟩
theorem MapB.lt {w : World} {b : Nat} {l : List (ByteArray × Value)} (h : MapB w b l) : b < w.heap.size := by
  obtain ⟨es, clock, hb, _⟩ := h
  exact lt_of_block hb
theorem MapB.ne {w : World} {b c : Nat} {l : List (ByteArray × Value)} {e : TypeId} {xs : List Value} (h : MapB w b l) (k : Blk w c e xs) : c ≠ b := by
  rintro rfl
  obtain ⟨es, clock, hb, _⟩ := h
  unfold Blk at k
  rw [hb] at k
  simp at k

theorem MapB.lenRun {P : Program} {w : World} {b : Nat} {l : List (ByteArray × Value)} (h : MapB w b l) {t k e : TypeId} (ht : P.underlying t = some (.map k e)) (ty : TypeId) : (Builtin.len_ #[t] ty #[.map (some b)]).run P w = .ok (.int .i64 (l.length : Int)) w := by
  obtain ⟨es, clock, hb, hsz⟩ := h.len
  simp [Builtin.len_, run_underlying ht, MapKept.run_getObj_map hb, goInt, hsz]

#print axioms MapB.update
end Go.Proofs.YbulkcfxgFmt
