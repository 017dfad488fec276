import Derived.Test.Qxb6000496aRows
import Derived.WalkKit
import Derived.WalkLawsBesides
import Derived.ProofKit
import Derived.Below
import Derived.BigQuiet
import Derived.Deep.QuietTactic
import Derived.OwnWalk
import Derived.Laws.BitsAllLaws
namespace Go.Proofs.Qxb6000496a
open Go.ChangeShapes Go.WideShapes Go.ChangeAt Go.RowKit

def Hid (p : Prop) : Prop := p
theorem hide {p : Prop} (h : p) : Hid p := h
theorem unhide {p : Prop} (h : Hid p) : p := h

/-! ### Blocks of the call's own -/
section
variable {w : World} {b i : Nat} {cs : List Value} {e : TypeId} {v : Value}
theorem blk_cell (h : w.heap[b]? = some (.cells cs.toArray e (0, 0))) (hi : cs[i]? = some v) : w.cell? ⟨b, i, none⟩ = some v := by
  simp [World.cell?, h, hi]
theorem blk_free (h : w.heap[b]? = some (.cells cs.toArray e (0, 0))) : w.frozen? ⟨b, i, none⟩ = false := by
  simp [World.frozen?, h]
theorem blk_lt {o : Obj} (h : w.heap[b]? = some o) : b < w.heap.size := (Array.getElem?_eq_some_iff.1 h).1
theorem blk_set (h : w.heap[b]? = some (.cells cs.toArray e (0, 0))) : (w.setCell ⟨b, i, none⟩ v).heap[b]? = some (.cells (cs.set i v).toArray e (0, 0)) := by
  have hlt := blk_lt h
  have h' : w.heap[b] = .cells cs.toArray e (0, 0) := (Array.getElem?_eq_some_iff.1 h).2
  show (w.heap.modify b _)[b]? = _
  rw [Array.getElem?_eq_getElem (by simpa using hlt), Array.getElem_modify_self, h']
  simp
end
theorem addr_add (b o i : Nat) : (⟨b, o, none⟩ : Addr).add i = ⟨b, o + i, none⟩ := by unfold Addr.add; split <;> simp_all

/-! ### The table -/
theorem Try.info36 : (Try.prog.info? 36).map (fun i => (i.zero, i.size, i.bytes)) = some (some (.agg #[.string ⟨#[]⟩, .bool false]), 2, 24) := by kernel_rfl

/-- What a place of the table holds: none: unused. -/
def place : Option ByteArray → List Value
  | .none => [.string ⟨#[]⟩, .bool false]
  | some s => [.string s, .bool true]
def tcells (tb : List (Option ByteArray)) : List Value := tb.flatMap place
theorem place_length (o : Option ByteArray) : (place o).length = 2 := by cases o <;> rfl
theorem tcells_length (tb : List (Option ByteArray)) : (tcells tb).length = 2 * tb.length := by
  induction tb with
  | nil => rfl
  | cons o tb ih => simp [tcells, place_length] at ih ⊢; omega
theorem tcells_get (tb : List (Option ByteArray)) (i j : Nat) (hj : j < 2) : (tcells tb)[2 * i + j]? = (tb[i]?).bind fun o => (place o)[j]? := by
  induction tb generalizing i with
  | nil => simp [tcells]
  | cons o tb ih =>
    have e : tcells (o :: tb) = place o ++ tcells tb := rfl
    rw [e]
    cases i with
    | zero => rw [List.getElem?_append_left (by rw [place_length]; omega)]; simp
    | succ i =>
      rw [List.getElem?_append_right (by rw [place_length]; omega), place_length, show 2 * (i + 1) + j - 2 = 2 * i + j from by omega, ih]
      simp
theorem tcells_set (tb : List (Option ByteArray)) (i : Nat) (s : ByteArray) (hi : i < tb.length) : ((tcells tb).set (2 * i) (.string s)).set (2 * i + 1) (.bool true) = tcells (tb.set i (some s)) := by
  apply List.ext_getElem?
  intro j
  have hl := tcells_length tb
  obtain ⟨q, r, hr, rfl⟩ : ∃ q r, r < 2 ∧ j = 2 * q + r := ⟨j / 2, j % 2, by omega, by omega⟩
  rw [tcells_get _ q r hr]
  by_cases hq : q = i
  · subst hq
    rw [List.getElem?_set_self hi]
    rcases (show r = 0 ∨ r = 1 by omega) with rfl | rfl
    · rw [List.getElem?_set_ne (by omega), Nat.add_zero, List.getElem?_set_self (by omega)]; rfl
    · rw [List.getElem?_set_self (by simp; omega)]; rfl
  · rw [List.getElem?_set_ne (by omega), List.getElem?_set_ne (by omega), List.getElem?_set_ne (by omega), tcells_get _ q r hr]

/-- Block g holds the table, perhaps with room behind it. -/
def Table (w : World) (g : Nat) (tb : List (Option ByteArray)) : Prop := ∃ more : List Value, w.heap[g]? = some (.cells (tcells tb ++ more).toArray 36 (0, 0))

theorem table_name {w : World} {g i : Nat} {tb : List (Option ByteArray)} {o : Option ByteArray} (h : Table w g tb) (hi : tb[i]? = some o) : w.cell? ⟨g, i * 2, none⟩ = some (.string (o.getD ⟨#[]⟩)) := by
  obtain ⟨more, h⟩ := h
  refine blk_cell h ?_
  have hlt := (List.getElem?_eq_some_iff.1 hi).1
  rw [List.getElem?_append_left (by rw [tcells_length]; omega), show i * 2 = 2 * i + 0 from by omega, tcells_get _ _ _ (by omega), hi]
  cases o <;> rfl
theorem table_used {w : World} {g i : Nat} {tb : List (Option ByteArray)} {o : Option ByteArray} (h : Table w g tb) (hi : tb[i]? = some o) : w.cell? ⟨g, i * 2 + 1, none⟩ = some (.bool o.isSome) := by
  obtain ⟨more, h⟩ := h
  refine blk_cell h ?_
  have hlt := (List.getElem?_eq_some_iff.1 hi).1
  rw [List.getElem?_append_left (by rw [tcells_length]; omega), show i * 2 + 1 = 2 * i + 1 from by omega, tcells_get _ _ _ (by omega), hi]
  cases o <;> rfl
theorem table_free {w : World} {g j : Nat} {tb : List (Option ByteArray)} (h : Table w g tb) : w.frozen? ⟨g, j, none⟩ = false := by
  obtain ⟨more, h⟩ := h
  exact blk_free h
theorem table_set {w : World} {g i : Nat} {tb : List (Option ByteArray)} (h : Table w g tb) (hi : i < tb.length) (s : ByteArray) : Table ((w.setCell ⟨g, i * 2, none⟩ (.string s)).setCell ⟨g, i * 2 + 1, none⟩ (.bool true)) g (tb.set i (some s)) := by
  obtain ⟨more, h⟩ := h
  refine ⟨more, ?_⟩
  have h2 := blk_set (i := i * 2 + 1) (v := .bool true) (blk_set (i := i * 2) (v := .string s) h)
  have hl := tcells_length tb
  rw [List.set_append_left _ _ (by omega), List.set_append_left _ _ (by simp; omega), show i * 2 = 2 * i from by omega, tcells_set _ _ _ hi] at h2
  rw [show i * 2 = 2 * i from by omega]
  exact h2
theorem table_block {w w' : World} {g : Nat} {tb : List (Option ByteArray)} (h : Table w g tb) (e : w'.heap[g]? = w.heap[g]?) : Table w' g tb := by
  obtain ⟨more, h⟩ := h
  exact ⟨more, e.trans h⟩
theorem table_lt {w : World} {g : Nat} {tb : List (Option ByteArray)} (h : Table w g tb) : g < w.heap.size := by
  obtain ⟨more, h⟩ := h
  exact blk_lt h

/-- A new table: nothing is in use. -/
def zrow (n : Nat) : Array Value := madeCells (Value.agg #[.string ⟨#[]⟩, .bool false]).cells (n * 2)
theorem zrow_get (n j : Nat) (hj : j < n * 2) : (zrow n).toList[j]? = some (if j % 2 = 0 then .string ⟨#[]⟩ else .bool false) := by
  have hz : (Value.agg #[.string ⟨#[]⟩, .bool false]).cells = #[.string ⟨#[]⟩, .bool false] := rfl
  unfold zrow madeCells
  rw [hz, Array.getElem?_toList, Array.getElem?_map, Array.getElem?_range]
  simp only [hj, if_true, Option.map_some]
  rcases (show j % 2 = 0 ∨ j % 2 = 1 by omega) with h | h <;> simp [h]
theorem zrow_length (n : Nat) : (zrow n).toList.length = n * 2 := by simp [zrow, size_madeCells]
theorem zrow_cells (n m : Nat) (h : n ≤ m) : ∃ more, (zrow m).toList = tcells (List.replicate n .none) ++ more := by
  refine ⟨(zrow m).toList.drop (n * 2), ?_⟩
  have e : (zrow m).toList.take (n * 2) = tcells (List.replicate n .none) := by
    apply List.ext_getElem?
    intro j
    obtain ⟨q, r, hr, rfl⟩ : ∃ q r, r < 2 ∧ j = 2 * q + r := ⟨j / 2, j % 2, by omega, by omega⟩
    rw [tcells_get _ q r hr]
    by_cases hq : q < n
    · rw [List.getElem?_take, if_pos (by omega), zrow_get _ _ (by omega), List.getElem?_replicate, if_pos hq]
      rcases (show r = 0 ∨ r = 1 by omega) with rfl | rfl
      · rw [if_pos (by omega)]; rfl
      · rw [if_neg (by omega)]; rfl
    · rw [List.getElem?_take, if_neg (by omega), List.getElem?_replicate, if_neg hq]; rfl
  rw [← e, List.take_append_drop]
theorem table_new {w : World} {g n m : Nat} (h : w.heap[g]? = some (.cells (zrow m) 36 (0, 0))) (hn : n ≤ m) : Table w g (List.replicate n .none) := by
  obtain ⟨more, e⟩ := zrow_cells n m hn
  refine ⟨more, ?_⟩
  rw [← e, Array.toArray_toList]; exact h

theorem run_mk (t : TypeId) (ht : Try.prog.underlying t = some (.slice 36)) (n : Nat) (w : World) (hn : n ≤ 1048576) : (Instr.makeSlice t (.int .i64 (n : Int)) (.int .i64 (n : Int))).run Try.prog w = .ok (.slice (some ⟨w.heap.size, 0, none⟩) n n) (w.alloc (.cells (zrow n) 36 (0, 0))) := by
  obtain ⟨i0, hi, hz0, hz1, hz2⟩ := info_parts Try.info36
  have h := run_make (P := Try.prog) w t 36 i0 _ ht hi hz0 .i64 .i64 (n : Int) (n : Int) (by omega) (by omega) (by rw [hz2]; omega) (by omega)
  rw [Int.toNat_natCast, hz1] at h
  exact h
end Go.Proofs.Qxb6000496a
