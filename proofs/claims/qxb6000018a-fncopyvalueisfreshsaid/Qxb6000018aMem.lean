import Derived.Test.Qxb6000018aRate
import Derived.Laws.CopyOwn
import Derived.BigQuiet
import Derived.Deep.QuietTactic
import Derived.OwnWalk
namespace Go.Proofs.Qxb6000018a
open Go.ChangeShapes Go.WideShapes Go.ChangeAt Go.RowKit

theorem Try.cells5 : Try.prog.cellsOf 5 = 1 := by kernel_rfl
theorem Try.info5 : (Try.prog.info? 5).map (fun i => (i.zero, i.size, i.bytes)) = some (some (.int .u8 0), 1, 1) := by kernel_rfl

/-! ### Blocks of the call's own -/
section
variable {w : World} {b i : Nat} {cs : List Value} {e : TypeId} {v : Value}
theorem blk_cell (h : w.heap[b]? = some (.cells cs.toArray e (0, 0))) (hi : cs[i]? = some v) : w.cell? ⟨b, i, none⟩ = some v := by
  simp [World.cell?, h, hi]
theorem blk_free (h : w.heap[b]? = some (.cells cs.toArray e (0, 0))) : w.frozen? ⟨b, i, none⟩ = false := by
  simp [World.frozen?, h]
theorem blk_lt {o : Obj} (h : w.heap[b]? = some o) : b < w.heap.size := (Array.getElem?_eq_some_iff.1 h).1
theorem blk_set (h : w.heap[b]? = some (.cells cs.toArray e (0, 0))) : (w.setCell ⟨b, i, none⟩ v).heap[b]? = some (.cells (cs.set i v).toArray e (0, 0)) := by
  have hlt := blk_lt h
  have h' : w.heap[b] = .cells cs.toArray e (0, 0) := (Array.getElem?_eq_some_iff.1 h).2
  show (w.heap.modify b _)[b]? = _
  rw [Array.getElem?_eq_getElem (by simpa using hlt), Array.getElem_modify_self, h']
  simp
end

/-- Bytes as values. -/
def vals (zs : List Int) : List Value := zs.map (Value.int .u8)
theorem vals_get {zs : List Int} {i : Nat} (h : i < zs.length) : (vals zs)[i]? = some (.int .u8 (zs.getD i 0)) := by
  simp [vals, h]
theorem vals_length (zs : List Int) : (vals zs).length = zs.length := by simp [vals]

/-- A slice of bytes as it may have come in: its elements are 'zs'. -/
def Reads (w : World) (v : Value) (zs : List Int) : Prop :=
  (v = .slice none 0 0 ∧ zs = []) ∨ ∃ x cap, v = .slice (some x) zs.length cap ∧ ∀ i, i < zs.length → w.cell? (x.add i) = some (.int .u8 (zs.getD i 0))

/-- A slice of bytes of the call's own: block g. -/
def Own (w : World) (g : Nat) (zs : List Int) : Prop := w.heap[g]? = some (.cells (vals zs).toArray 5 (0, 0))

theorem addr_add (b o i : Nat) : (⟨b, o, none⟩ : Addr).add i = ⟨b, o + i, none⟩ := by unfold Addr.add; split <;> simp_all

theorem own_reads {w : World} {g : Nat} {zs : List Int} (h : Own w g zs) : Reads w (.slice (some ⟨g, 0, none⟩) zs.length zs.length) zs :=
  .inr ⟨⟨g, 0, none⟩, zs.length, rfl, fun i hi => by rw [addr_add, Nat.zero_add]; exact blk_cell h (vals_get hi)⟩

theorem reads_below {B : Nat} {w w' : World} {v : Value} {zs : List Int} (h : Reads w v zs) (hb : Below B w w') (hx : ∀ x n c, v = .slice (some x) n c → 0 < zs.length → x.block < B) : Reads w' v zs := by
  rcases h with h | ⟨x, cap, rfl, hc⟩
  · exact .inl h
  · refine .inr ⟨x, cap, rfl, fun i hi => ?_⟩
    rw [hb.cell (p := x.add i)]
    · exact hc i hi
    · have := hx x _ _ rfl (by omega)
      have e : (x.add i).block = x.block := by unfold Addr.add; split <;> rfl
      rw [e]; exact this

/-- Where there is an element the address is plain. -/
theorem reads_at {w : World} {x : Addr} {zs : List Int} (hc : ∀ i, i < zs.length → w.cell? (x.add i) = some (.int .u8 (zs.getD i 0))) (hp : 0 < zs.length) :
    ∃ b o, x = ⟨b, o, none⟩ ∧ b < w.heap.size ∧ ∀ i, i < zs.length → w.cell? ⟨b, o + i, none⟩ = some (.int .u8 (zs.getD i 0)) := by
  obtain ⟨b, o, s⟩ := x
  have h0 := hc 0 hp
  have hs : s = none := by
    cases s with
    | none => rfl
    | some s => 
      exfalso
      have e : (⟨b, o, some s⟩ : Addr).add 0 = ⟨b, o, some s⟩ := rfl
      rw [e] at h0
      unfold World.cell? at h0
      split at h0
      · simp at h0
      · cases h0
  subst hs
  refine ⟨b, o, rfl, ?_, fun i hi => by rw [← addr_add]; exact hc i hi⟩
  rw [addr_add] at h0
  unfold World.cell? at h0
  split at h0
  · rename_i h; exact blk_lt h
  · cases h0
/-! ### cloneBytes -/
def zrow (n : Nat) : Array Value := madeCells (Value.int .u8 0).cells n
theorem zrow_size (n : Nat) : (zrow n).size = n := size_madeCells _ _

theorem run_mk (n : Nat) (w : World) (hn : n ≤ 281474976710656) : (Instr.makeSlice 30 (.int .i64 (n : Int)) (.int .i64 (n : Int))).run Try.prog w = .ok (.slice (some ⟨w.heap.size, 0, none⟩) n n) (w.alloc (.cells (zrow n) 5 (0, 0))) := by
  obtain ⟨i0, hi, hz0, hz1, hz2⟩ := info_parts Try.info5
  have h := run_make (P := Try.prog) w 30 5 i0 _ Try.underlying30 hi hz0 .i64 .i64 (n : Int) (n : Int) (by omega) (by omega) (by rw [hz2]; omega) (by omega)
  rw [Int.toNat_natCast, hz1, Nat.mul_one] at h
  exact h

theorem q30 : ∀ (w : World) (a : Option Addr) (n c n' c' : Nat), (binOp .eql 30 (.slice a n c) (.slice none n' c')).run Try.prog w = .ok (.bool a.isNone) w :=
  fun w a n c n' c' => Lib.run_eql_slice_nil w _ _ a n c n' c' Try.underlying30

theorem clone_nil (w : World) : Calls Try.prog 10 #[.slice none 0 0] w fun e w' => e = .returned (.slice none 0 0) ∧ w' = w := by
  have hq := q30
  go_enter Try.func10, Try.ntmps10
  go_wp2
  go_ret
  exact ⟨rfl, rfl⟩

/-- The row of the copy after k rounds. -/
def Filled (w : World) (g n k : Nat) (zs : List Int) : Prop :=
  ∃ cs : List Value, w.heap[g]? = some (.cells cs.toArray 5 (0, 0)) ∧ cs.length = n ∧ ∀ i, i < k → cs[i]? = some (.int .u8 (zs.getD i 0))

theorem filled_start {w : World} {n : Nat} {zs : List Int} : Filled (w.alloc (.cells (zrow n) 5 (0, 0))) w.heap.size n 0 zs :=
  ⟨(zrow n).toList, by rw [Array.toArray_toList]; exact heap_alloc_new _ _, by simp [zrow_size], fun i hi => by omega⟩

theorem filled_set {w : World} {g n k : Nat} {zs : List Int} (h : Filled w g n k zs) (hk : k < n) : Filled (w.setCell ⟨g, k, none⟩ (.int .u8 (zs.getD k 0))) g n (k + 1) zs := by
  obtain ⟨cs, h1, h2, h3⟩ := h
  refine ⟨cs.set k (.int .u8 (zs.getD k 0)), blk_set h1, by simp [h2], fun i hi => ?_⟩
  by_cases e : i = k
  · subst e; simp [h2, hk]
  · rw [List.getElem?_set_ne (by omega)]; exact h3 i (by omega)

theorem filled_end {w : World} {g : Nat} {zs : List Int} (h : Filled w g zs.length zs.length zs) : Own w g zs := by
  obtain ⟨cs, h1, h2, h3⟩ := h
  have e : cs = vals zs := by
    apply List.ext_getElem?
    intro i
    by_cases hi : i < zs.length
    · rw [h3 i hi, vals_get hi]
    · rw [List.getElem?_eq_none (by omega), List.getElem?_eq_none (by rw [vals_length]; omega)]
  unfold Own
  rw [← e]; exact h1

theorem filled_cell {w : World} {g n k : Nat} {zs : List Int} (h : Filled w g n k zs) (i : Nat) (hi : i < n) : (∃ v, w.cell? ⟨g, i, none⟩ = some v) ∧ w.frozen? ⟨g, i, none⟩ = false := by
  obtain ⟨cs, h1, h2, h3⟩ := h
  exact ⟨⟨cs[i]'(by omega), blk_cell h1 (List.getElem?_eq_getElem (by omega))⟩, blk_free h1⟩

set_option maxHeartbeats 400000 in
theorem clone_empty (x : Addr) (cap : Nat) (w : World) : Calls Try.prog 10 #[.slice (some x) 0 cap] w fun e w' => e = .returned (.slice (some ⟨w.heap.size, 0, none⟩) 0 0) ∧ w' = w.alloc (.cells (zrow 0) 5 (0, 0)) := by
  have hq := q30
  have hmk := run_mk 0 w (by omega)
  rw [show ((0 : Nat) : Int) = 0 from rfl] at hmk
  go_enter Try.func10, Try.ntmps10
  go_wp2
  refine wp_loop_rounds 1 ?_
  rw [rounds_succ]
  go_wp2
  go_ret
  exact ⟨rfl, rfl⟩

set_option maxHeartbeats 400000 in
theorem clone_some (b o cap : Nat) (zs : List Int) (w : World) (hl : zs.length ≤ 1048576) (hb : b < w.heap.size) (hc : ∀ i, i < zs.length → w.cell? ⟨b, o + i, none⟩ = some (.int .u8 (zs.getD i 0))) :
    Calls Try.prog 10 #[.slice (some ⟨b, o, none⟩) zs.length cap] w fun e w' => e = .returned (.slice (some ⟨w.heap.size, 0, none⟩) zs.length zs.length) ∧ Own w' w.heap.size zs ∧ Below w.heap.size w w' := by
  have hq := q30
  have hmk := run_mk zs.length w (by omega)
  generalize hn : zs.length = n at *
  have HN := hide hn
  have HC := hide hc
  clear hn hc
  go_enter Try.func10, Try.ntmps10
  go_wp2
  go_loopw [4] (fun i wr => ∃ k : Nat, k ≤ n ∧ i = .int .i64 k ∧ Filled wr w.heap.size n k zs ∧ Below w.heap.size w wr) (fun i _ => n - (intOf i).toNat)
  case atStart => exact ⟨0, Nat.zero_le _, rfl, filled_start, (Below.refl _ _).alloc (Nat.le_refl _) _⟩
  case round =>
    obtain ⟨k, hk, rfl, hf, hbel⟩ := hrel
    by_cases hlt : k < n
    · have hcx : wr.cell? ⟨b, o + k, none⟩ = some (.int .u8 (zs.getD k 0)) := (hbel.cell (by exact hb)).trans (unhide HC k hlt)
      obtain ⟨⟨v0, hv0⟩, hfr⟩ := filled_cell hf k hlt
      have R1 := filled_set hf hlt
      have R2 : Below w.heap.size w (wr.setCell ⟨w.heap.size, k, none⟩ (.int .u8 (zs.getD k 0))) := hbel.setCell (Nat.le_refl _) _
      have H1 := hide R1
      have H2 := hide R2
      clear hf hbel R1 R2
      generalize zs.getD k 0 = z at *
      go_wp2
      go_roundw
      case rel => exact ⟨k + 1, by omega, by go_num, unhide H1, unhide H2⟩
      case measure => simp [intOf]; omega
    · have : k = n := by omega
      subst this
      go_wp2
      go_ret
      have hn := unhide HN
      refine ⟨rfl, ?_, hbel⟩
      subst hn
      exact filled_end hf

end Go.Proofs.Qxb6000018a
