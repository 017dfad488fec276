import Derived.Test.Qxb6602477aBox
import Derived.OpenShut
import Derived.ShutString
import Derived.ChangeOld
import Derived.SliceStrings
import Derived.Deep.Slices
namespace Go.Proofs.Qxb6602477a
open Go.ChangeShapes Go.WideShapes Go.ChangeAt Go.RowKit
/-! ### The arguments as they came in -/
section
variable {H : Type} {enc : TypeId × Value → H} {w : World} {base : Nat} {spare : Nat → Bool} {held : Bool} {fuel : Nat}
theorem spot_none {x : Addr} {v : Value} (h : w.cell? x = some v) : x = ⟨x.block, x.off, none⟩ := by
  obtain ⟨b, o, s⟩ := x
  cases s with
  | none => rfl
  | some s =>
    exfalso
    unfold World.cell? at h
    split at h
    · simp at h
    · cases h
theorem strs_open {v : Value} {y : DataW H × List MemPlace} (h : DataW.trod enc Try.prog w base spare held fuel 23 [v] = some y) : ∃ a len cap ns, v = .slice a len cap ∧ Strs w a len ns := by
  rcases open_strings Try.underlying23 Try.underlying9 (by kernel_rfl) h with ⟨hcs, _⟩ | ⟨x, l, c, ss, hcs, _, hl, hm, hz, _, hcell, hws⟩
  · simp at hcs
    exact ⟨none, 0, 0, [], hcs, rfl, fun h => by omega⟩
  · simp at hcs
    have hle : l ≤ ss.length := by rw [hz]; split <;> omega
    refine ⟨some x, l, c, ss.take l, hcs, by simp; omega, fun hp => ?_⟩
    have h0 := hcell 0 (by omega)
    have e : x.add 0 = x := rfl
    rw [e] at h0
    have hx := spot_none h0
    refine ⟨x.block, x.off, by rw [← hx], fun i hi => ?_⟩
    rw [← addr_add, ← hx, hcell i (by omega)]
    unfold nm
    simp [List.getD_eq_getElem?_getD, hi, show i < ss.length by omega]
theorem list5 {α : Type} {cs : List α} (h : cs.length = 5) : ∃ c0 c1 c2 c3 c4, cs = [c0, c1, c2, c3, c4] := by
  match cs, h with
  | [c0, c1, c2, c3, c4], _ => exact ⟨c0, c1, c2, c3, c4, rfl⟩
theorem cells25 : Try.prog.cellsOf 25 = 5 := by kernel_rfl
theorem cells9 : Try.prog.cellsOf 9 = 1 := by kernel_rfl
theorem cells23 : Try.prog.cellsOf 23 = 1 := by kernel_rfl
theorem cells3 : Try.prog.cellsOf 3 = 1 := by kernel_rfl
theorem gem_open {cs : List Value} {y : DataW H × List MemPlace} (h : DataW.trod enc Try.prog w base spare held fuel 25 cs = some y) : ∃ k : Kept, cs = k.cells ∧ k.ok w := by
  obtain ⟨xs, n, _, _, hl, hlen, hf⟩ := DataW.trod_struct Try.underlying25 h
  rw [cells25] at hl
  obtain ⟨c0, c1, c2, c3, c4, rfl⟩ := list5 hl
  have hlen' : xs.length = 5 := hlen
  obtain ⟨y0, y1, y2, y3, y4, rfl⟩ := list5 hlen'
  have h0 : DataW.trod enc Try.prog w base spare held n 9 [c0] = some y0 := by simpa [cells9] using hf 0 _ rfl
  have h1 : DataW.trod enc Try.prog w base spare held n 9 [c1] = some y1 := by simpa [cells9] using hf 1 _ rfl
  have h2 : DataW.trod enc Try.prog w base spare held n 9 [c2] = some y2 := by simpa [cells9] using hf 2 _ rfl
  have h3 : DataW.trod enc Try.prog w base spare held n 23 [c3] = some y3 := by simpa [cells23] using hf 3 _ rfl
  have h4 : DataW.trod enc Try.prog w base spare held n 3 [c4] = some y4 := by simpa [cells3] using hf 4 _ rfl
  obtain ⟨s0, e0, _, _⟩ := DataW.trod_string Try.underlying9 (x := y0) h0
  obtain ⟨s1, e1, _, _⟩ := DataW.trod_string Try.underlying9 (x := y1) h1
  obtain ⟨s2, e2, _, _⟩ := DataW.trod_string Try.underlying9 (x := y2) h2
  obtain ⟨a, len, cap, ns, e3, hs⟩ := strs_open (y := y3) h3
  obtain ⟨z, e4, _, _⟩ := DataW.trod_int Try.underlying3 (x := y4) h4
  simp at e0 e1 e2 e4
  subst e0 e1 e2 e3 e4
  obtain rfl := hs.1
  exact ⟨⟨⟨s0, s1, s2, ns, z⟩, a, cap⟩, rfl, hs⟩
theorem gk_map (f : Nat → Kept) {n i : Nat} (h : i < n) : gk ((List.range n).map f) i = f i := by
  rw [gk_get (by simpa using h)]; simp
theorem gems_open {a : Option Addr} {len cap : Nat} {y : DataW H × List MemPlace} (h : DataW.trod enc Try.prog w base spare held fuel 22 [.slice a len cap] = some y) : ∃ ks, Gems w a len ks := by
  rcases Go.Deep.open_slice Try.underlying22 h with ⟨hcs, _⟩ | ⟨x, l, c, m, n, D, Pl, hcs, _, hl, _, hm, _, hx⟩
  · simp at hcs
    obtain ⟨rfl, rfl, rfl⟩ := hcs
    exact ⟨[], rfl, fun h => by omega, fun k hk => by cases hk⟩
  · simp at hcs
    obtain ⟨rfl, rfl, rfl⟩ := hcs
    have hle : len ≤ m := by rw [hm]; split <;> omega
    rw [cells25] at hx
    obtain ⟨f, hf⟩ := @Go.Deep.choose_lt Kept ⟨dk⟩ len (fun i (k : Kept) => w.cells? base (x.add (i * 5)) 5 = some k.cells ∧ k.ok w) (fun i hi => by
      obtain ⟨cs', h1, h2⟩ := hx i (by omega)
      obtain ⟨k, rfl, hk⟩ := gem_open h2
      exact ⟨k, h1, hk⟩)
    refine ⟨(List.range len).map f, by simp, fun hp => ?_, fun k hk => ?_⟩
    · have h0 := (World.cells?_some (hf 0 hp).1).2.2 0 (by omega)
      have e : (x.add (0 * 5)).add 0 = x := rfl
      rw [e] at h0
      have hxx := spot_none (v := .string (f 0).gem.name) h0
      refine ⟨x.block, x.off, by rw [← hxx], fun i hi => ?_⟩
      rw [gk_map f hi]
      have hc := (World.cells?_some (hf i hi).1).2.2
      have hat : ∀ j, j < 5 → w.cell? ⟨x.block, x.off + (i * 5 + j), none⟩ = (f i).cells[j]? := fun j hj => by
        rw [← hc j hj, Go.Deep.add_add, ← addr_add, ← hxx]
      refine ⟨?_, ?_, ?_, ?_, ?_⟩
      · exact hat 0 (by omega)
      · exact hat 1 (by omega)
      · exact hat 2 (by omega)
      · exact hat 3 (by omega)
      · exact hat 4 (by omega)
    · obtain ⟨i, hi, rfl⟩ := List.mem_map.1 hk
      exact (hf i (by simpa using hi)).2
end
end Go.Proofs.Qxb6602477a
