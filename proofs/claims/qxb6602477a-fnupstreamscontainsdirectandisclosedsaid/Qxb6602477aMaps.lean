import Derived.Test.Qxb6602477aSame
namespace Go.Proofs.Qxb6602477a
open Go.ChangeShapes Go.WideShapes Go.ChangeAt Go.RowKit Go.MapKept

/-- Block r is a map keyed by strings that holds f. -/
def StrMap (w : World) (r : Nat) (f : ByteArray → Option Value) : Prop :=
  ∃ es clock, w.heap[r]? = some (.map es clock) ∧ Stamped es clock ∧ (∀ x ∈ es.toList, IsKey .string x.key) ∧ ∀ (s : ByteArray) (v : Value), f s = some v ↔ ∃ x ∈ es.toList, x.key = .string s ∧ x.val = v

/-- Only block r has turned. -/
structure Only (r : Nat) (w w' : World) : Prop where
  os : w'.os = w.os
  tape : w'.tape = w.tape
  output : w'.output = w.output
  size : w'.heap.size = w.heap.size
  block : ∀ k, k ≠ r → w'.heap[k]? = w.heap[k]?
theorem only_below {B r : Nat} {w0 w w' : World} (h : Only r w w') (hb : Below B w0 w) (hr : B ≤ r) : Below B w0 w' :=
  hb.trans ⟨h.os, h.tape, h.output, by rw [h.size]; exact Nat.le_refl _, fun k hk => h.block k (by omega)⟩
theorem only_refl (r : Nat) (w : World) : Only r w w := ⟨rfl, rfl, rfl, rfl, fun _ _ => rfl⟩

theorem strMap_lt {w : World} {r : Nat} {f : ByteArray → Option Value} (h : StrMap w r f) : r < w.heap.size := by
  obtain ⟨es, clock, hb, _⟩ := h; exact blk_lt hb
theorem strMap_block {w w' : World} {r : Nat} {f : ByteArray → Option Value} (h : StrMap w r f) (e : w'.heap[r]? = w.heap[r]?) : StrMap w' r f := by
  obtain ⟨es, clock, hb, hs⟩ := h
  exact ⟨es, clock, e.trans hb, hs⟩
theorem strMap_stays {w w' : World} {r : Nat} {f : ByteArray → Option Value} (h : StrMap w r f) (hb : Below w.heap.size w w') : StrMap w' r f :=
  strMap_block h (hb.block r (strMap_lt h))
theorem strMap_congr {w : World} {r : Nat} {f g : ByteArray → Option Value} (h : StrMap w r f) (e : ∀ s, f s = g s) : StrMap w r g := by
  obtain ⟨es, clock, hb, h1, h2, h3⟩ := h
  exact ⟨es, clock, hb, h1, h2, fun s v => by rw [← e]; exact h3 s v⟩

theorem strMap_new (w : World) : StrMap (w.alloc (.map #[] 0)) w.heap.size (fun _ => none) :=
  ⟨#[], 0, heap_alloc_new _ _, stamped_empty 0, by simp, fun s v => by simp⟩

variable {P : Program} {t kt et : TypeId}

theorem run_lookup_str {w : World} {r : Nat} {f : ByteArray → Option Value} (hm : P.underlying t = some (.map kt et)) (hk : P.underlying kt = some .string) {z : Value} (hz : (zeroValue et).run P w = .ok z w) (h : StrMap w r f) (s : ByteArray) :
    (Instr.lookup t (.map (some r)) (.string s) false).run P w = .ok ((f s).getD z) w := by
  obtain ⟨es, clock, hb, hst, hks, hf⟩ := h
  have hkey : IsKey .string (.string s) := by simp [IsKey]
  rcases findNow_spec hkey es.toList 0 hks with ⟨h1, h2⟩ | ⟨j, e, h1, h2, h3⟩
  · have hn : f s = none := by
      cases hfs : f s with
      | none => rfl
      | some v =>
        obtain ⟨x, hx, hxk, _⟩ := (hf s v).1 hfs
        exact absurd hxk (h2 x hx)
    simp [Instr.lookup, run_underlying hm, MapKept.run_getObj_map hb, run_checkKey hk hkey, run_findKey hk h1, hz, hn, Result.andThen]
  · have hn : f s = some e.val := (hf s e.val).2 ⟨e, List.mem_of_getElem? h2, h3, rfl⟩
    simp [Instr.lookup, run_underlying hm, MapKept.run_getObj_map hb, run_checkKey hk hkey, run_findKey hk h1, hn, Result.andThen]

/-- The map with one entry more. -/
def put (f : ByteArray → Option Value) (s : ByteArray) (v : Value) : ByteArray → Option Value := fun t => if same s t then some v else f t
theorem put_self (f : ByteArray → Option Value) (s : ByteArray) (v : Value) : put f s v s = some v := by unfold put; rw [if_pos (same_refl s)]
theorem put_other {f : ByteArray → Option Value} {s t : ByteArray} {v : Value} (h : s ≠ t) : put f s v t = f t := by unfold put; rw [if_neg (by rw [same_iff]; exact h)]

theorem run_update_str {w : World} {r : Nat} {f : ByteArray → Option Value} (hm : P.underlying t = some (.map kt et)) (hk : P.underlying kt = some .string) (h : StrMap w r f) (s : ByteArray) (v : Value) :
    ∃ w', (Instr.mapUpdate t (.map (some r)) (.string s) v).run P w = .ok () w' ∧ StrMap w' r (put f s v) ∧ Only r w w' := by
  obtain ⟨es, clock, hb, hst, hks, hf⟩ := h
  have hkey : IsKey .string (.string s) := by simp [IsKey]
  rcases findNow_spec hkey es.toList 0 hks with ⟨h1, h2⟩ | ⟨j, e, h1, h2, h3⟩
  · refine ⟨{ w with heap := w.heap.setIfInBounds r (.map (es.push { key := .string s, val := v, born := clock }) (clock + 1)) }, ?_, ⟨es.push { key := .string s, val := v, born := clock }, clock + 1, (heap_set hb).1, stamped_push hst h2, ?_, fun s' v' => ?_⟩, ⟨rfl, rfl, rfl, by simp, fun k hk => (heap_set hb).2 k hk⟩⟩
    · simp [Instr.mapUpdate, run_underlying hm, MapKept.run_getObj_map hb, run_checkKey hk hkey, run_findKey hk h1, MapKept.run_setObj_map _ hb, Result.andThen]
    · intro x hx
      simp only [Array.toList_push, List.mem_append, List.mem_singleton] at hx
      rcases hx with hx | rfl
      · exact hks x hx
      · exact hkey
    · simp only [Array.toList_push, List.mem_append, List.mem_singleton]
      by_cases c : s = s'
      · subst c
        rw [put_self]
        constructor
        · intro hv; cases hv; exact ⟨_, .inr rfl, rfl, rfl⟩
        · rintro ⟨x, hx | rfl, hxk, hxv⟩
          · exact absurd hxk (h2 x hx)
          · rw [← hxv]
      · rw [put_other c, hf s' v']
        constructor
        · rintro ⟨x, hx, hxk, hxv⟩; exact ⟨x, .inl hx, hxk, hxv⟩
        · rintro ⟨x, hx | rfl, hxk, hxv⟩
          · exact ⟨x, hx, hxk, hxv⟩
          · exfalso; exact c (by simpa using hxk)
  · have hj : es[j]? = some e := by simpa using h2
    have hkeyf : ∀ e', es[j]? = some e' → ({ e' with key := .string s, val := v } : MapEntry).key = e'.key := fun e' he' => by rw [hj] at he'; cases he'; exact h3.symm
    refine ⟨{ w with heap := w.heap.setIfInBounds r (.map (es.modify j fun e => { e with key := .string s, val := v }) clock) }, ?_, ⟨es.modify j fun e => { e with key := .string s, val := v }, clock, (heap_set hb).1, stamped_modify hst _ _ (fun _ _ => rfl) (fun e' _ he' => hkeyf e' he'), isKey_modify hks _ _ hkeyf, fun s' v' => ?_⟩, ⟨rfl, rfl, rfl, by simp, fun k hk => (heap_set hb).2 k hk⟩⟩
    · simp [Instr.mapUpdate, run_underlying hm, MapKept.run_getObj_map hb, run_checkKey hk hkey, run_findKey hk h1, hj, h3, run_keyThatStays hkey, MapKept.run_setObj_map _ hb, Result.andThen]
    · -- the entries behind the store
      have hmem : ∀ x, x ∈ (es.modify j fun e => { e with key := .string s, val := v }).toList ↔ (x = { e with key := .string s, val := v }) ∨ (∃ i, i ≠ j ∧ es[i]? = some x) := by
        intro x
        rw [Array.mem_toList_iff, Array.mem_iff_getElem?]
        constructor
        · rintro ⟨i, hi⟩
          rw [Array.getElem?_modify] at hi
          by_cases c : j = i
          · subst c; rw [if_pos rfl, hj] at hi; left; simpa using hi.symm
          · rw [if_neg c] at hi; exact .inr ⟨i, fun h => c h.symm, hi⟩
        · rintro (rfl | ⟨i, hne, hi⟩)
          · exact ⟨j, by rw [Array.getElem?_modify, if_pos rfl, hj]; rfl⟩
          · exact ⟨i, by rw [Array.getElem?_modify, if_neg (fun h => hne h.symm)]; exact hi⟩
      have huniq : ∀ i x, i ≠ j → es[i]? = some x → x.key ≠ .string s := by
        intro i x hne hi hxk
        have hnd := hst.2.2
        obtain ⟨hil, hie⟩ := Array.getElem?_eq_some_iff.1 hi
        obtain ⟨hjl, hje⟩ := Array.getElem?_eq_some_iff.1 hj
        have a1 : (es.toList.map (·.key))[i]? = some (.string s) := by rw [List.getElem?_map]; simp [hi, hxk]
        have a2 : (es.toList.map (·.key))[j]? = some (.string s) := by rw [List.getElem?_map]; simp [hj, h3]
        exact hne ((List.getElem?_inj (by simpa using hil) hnd).1 (a1.trans a2.symm))
      by_cases c : s = s'
      · subst c
        rw [put_self]
        constructor
        · intro hv; cases hv; exact ⟨_, (hmem _).2 (.inl rfl), rfl, rfl⟩
        · rintro ⟨x, hx, hxk, hxv⟩
          rcases (hmem x).1 hx with rfl | ⟨i, hne, hi⟩
          · rw [← hxv]
          · exact absurd hxk (huniq i x hne hi)
      · rw [put_other c, hf s' v']
        constructor
        · rintro ⟨x, hx, hxk, hxv⟩
          obtain ⟨i, hi⟩ := Array.mem_iff_getElem?.1 (Array.mem_toList_iff.1 hx)
          have hne : i ≠ j := by
            rintro rfl
            rw [hj] at hi; cases hi
            rw [h3] at hxk
            exact c (by simpa using hxk)
          exact ⟨x, (hmem x).2 (.inr ⟨i, hne, hi⟩), hxk, hxv⟩
        · rintro ⟨x, hx, hxk, hxv⟩
          rcases (hmem x).1 hx with rfl | ⟨i, hne, hi⟩
          · exfalso; exact c (by simpa using hxk)
          · exact ⟨x, Array.mem_toList_iff.2 (Array.mem_iff_getElem?.2 ⟨i, hi⟩), hxk, hxv⟩
end Go.Proofs.Qxb6602477a
