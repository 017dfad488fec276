import Derived.Test.Qxb6602477aUp
namespace Go.Proofs.Qxb6602477a
open Go.ChangeShapes Go.WideShapes Go.ChangeAt Go.RowKit

theorem Try.info3 : (Try.prog.info? 3).map (fun i => (i.zero, i.size, i.bytes)) = some (some (.int .i64 0), 1, 8) := by kernel_rfl
theorem Try.info4 : (Try.prog.info? 4).map (fun i => (i.zero, i.size, i.bytes)) = some (some (.bool false), 1, 1) := by kernel_rfl
theorem Try.info35 : (Try.prog.info? 35).map (fun i => (i.zero, i.size, i.bytes)) = some (some (.slice none 0 0), 1, 24) := by kernel_rfl

/-- Block b is a row of n cells that hold f. -/
def Blk (w : World) (b : Nat) (e : TypeId) (n : Nat) (f : Nat → Value) : Prop :=
  ∃ cs : List Value, w.heap[b]? = some (.cells cs.toArray e (0, 0)) ∧ cs.length = n ∧ ∀ i, i < n → cs[i]? = some (f i)
def upd (f : Nat → Value) (i : Nat) (v : Value) : Nat → Value := fun j => if j = i then v else f j

theorem blk_at {w : World} {b n i : Nat} {e : TypeId} {f : Nat → Value} (h : Blk w b e n f) (hi : i < n) : w.cell? ⟨b, i, none⟩ = some (f i) := by
  obtain ⟨cs, h1, _, h3⟩ := h; exact blk_cell h1 (h3 i hi)
theorem blk_fr {w : World} {b n : Nat} {e : TypeId} {f : Nat → Value} (h : Blk w b e n f) (i : Nat) : w.frozen? ⟨b, i, none⟩ = false := by
  obtain ⟨cs, h1, _⟩ := h; exact blk_free h1
theorem blk_in {w : World} {b n : Nat} {e : TypeId} {f : Nat → Value} (h : Blk w b e n f) : b < w.heap.size := by
  obtain ⟨cs, h1, _⟩ := h; exact blk_lt h1
theorem blk_put {w : World} {b n i : Nat} {e : TypeId} {f : Nat → Value} (h : Blk w b e n f) (v : Value) : Blk (w.setCell ⟨b, i, none⟩ v) b e n (upd f i v) := by
  obtain ⟨cs, h1, h2, h3⟩ := h
  refine ⟨cs.set i v, blk_set h1, by simp [h2], fun j hj => ?_⟩
  unfold upd
  by_cases c : j = i
  · subst c; rw [if_pos rfl, List.getElem?_set_self (by omega)]
  · rw [if_neg c, List.getElem?_set_ne (by omega)]; exact h3 j hj
theorem blk_keep {w w' : World} {b n : Nat} {e : TypeId} {f : Nat → Value} (h : Blk w b e n f) (hb : w'.heap[b]? = w.heap[b]?) : Blk w' b e n f := by
  obtain ⟨cs, h1, h2⟩ := h; exact ⟨cs, hb.trans h1, h2⟩
theorem blk_stays {w w' : World} {b n : Nat} {e : TypeId} {f : Nat → Value} (h : Blk w b e n f) (hb : Below w.heap.size w w') : Blk w' b e n f := blk_keep h (hb.block b (blk_in h))
theorem blk_congr {w : World} {b n : Nat} {e : TypeId} {f g : Nat → Value} (h : Blk w b e n f) (hfg : ∀ i, i < n → f i = g i) : Blk w b e n g := by
  obtain ⟨cs, h1, h2, h3⟩ := h; exact ⟨cs, h1, h2, fun i hi => by rw [h3 i hi, hfg i hi]⟩
theorem blk_set_ne {w : World} {b n : Nat} {e : TypeId} {f : Nat → Value} (h : Blk w b e n f) {p : Addr} (v : Value) (hp : b ≠ p.block) : Blk (w.setCell p v) b e n f := blk_keep h (Below.heap_setCell _ _ _ _ hp)
theorem blk_alloc {w : World} {b n : Nat} {e : TypeId} {f : Nat → Value} (h : Blk w b e n f) (o : Obj) : Blk (w.alloc o) b e n f := blk_keep h (Below.heap_alloc _ _ _ (blk_in h))
theorem blk_ints {w : World} {b n : Nat} {z : Nat → Int} (h : Blk w b 3 n (fun i => .int .i64 (z i))) : Ints w (some ⟨b, 0, none⟩) n z :=
  fun _ => ⟨b, 0, rfl, fun i hi => by rw [Nat.zero_add]; exact blk_at h hi⟩

def row1 (z : Value) (n : Nat) : Array Value := madeCells z.cells n
theorem row1_size (z : Value) (n : Nat) : (row1 z n).size = n := size_madeCells _ _
theorem row1_get (z : Value) (hz : z.cells = #[z]) (n j : Nat) (hj : j < n) : (row1 z n).toList[j]? = some z := by
  unfold row1 madeCells
  rw [hz, Array.getElem?_toList, Array.getElem?_map, Array.getElem?_range]
  simp [hj, Nat.mod_one]
theorem blk_new (w : World) (z : Value) (hz : z.cells = #[z]) (e : TypeId) (n : Nat) : Blk (w.alloc (.cells (row1 z n) e (0, 0))) w.heap.size e n (fun _ => z) :=
  ⟨(row1 z n).toList, by rw [Array.toArray_toList]; exact heap_alloc_new _ _, by simp [row1_size], fun i hi => row1_get z hz n i hi⟩

theorem run_mk1 (t e : TypeId) (z : Value) (bytes : Nat) (ht : Try.prog.underlying t = some (.slice e)) (hin : (Try.prog.info? e).map (fun i => (i.zero, i.size, i.bytes)) = some (some z, 1, bytes)) (hb : bytes ≤ 24)
    (n : Nat) (hn : n ≤ 1048576) (w : World) : (Instr.makeSlice t (.int .i64 (n : Int)) (.int .i64 (n : Int))).run Try.prog w = .ok (.slice (some ⟨w.heap.size, 0, none⟩) n n) (w.alloc (.cells (row1 z n) e (0, 0))) := by
  obtain ⟨i0, hi, hz0, hz1, hz2⟩ := info_parts hin
  have hbn : (bytes : Int) * (n : Int) ≤ 24 * 1048576 := by
    have h1 : bytes * n ≤ 24 * 1048576 := Nat.mul_le_mul hb hn
    have h2 : ((bytes * n : Nat) : Int) ≤ 24 * 1048576 := by omega
    rwa [Int.natCast_mul] at h2
  have h := run_make (P := Try.prog) w t e i0 _ ht hi hz0 .i64 .i64 (n : Int) (n : Int) (by omega) (by omega) (by rw [hz2]; omega) (by omega)
  rw [Int.toNat_natCast, hz1, Nat.mul_one] at h
  exact h
theorem mk35 (n : Nat) (hn : n ≤ 1048576) (w : World) : (Instr.makeSlice 35 (.int .i64 (n : Int)) (.int .i64 (n : Int))).run Try.prog w = .ok (.slice (some ⟨w.heap.size, 0, none⟩) n n) (w.alloc (.cells (row1 (.int .i64 0) n) 3 (0, 0))) :=
  run_mk1 35 3 _ 8 Try.underlying35 Try.info3 (by omega) n hn w
theorem mk47 (n : Nat) (hn : n ≤ 1048576) (w : World) : (Instr.makeSlice 47 (.int .i64 (n : Int)) (.int .i64 (n : Int))).run Try.prog w = .ok (.slice (some ⟨w.heap.size, 0, none⟩) n n) (w.alloc (.cells (row1 (.slice none 0 0) n) 35 (0, 0))) :=
  run_mk1 47 35 _ 24 Try.underlying47 Try.info35 (by omega) n hn w
theorem mk49 (n : Nat) (hn : n ≤ 1048576) (w : World) : (Instr.makeSlice 49 (.int .i64 (n : Int)) (.int .i64 (n : Int))).run Try.prog w = .ok (.slice (some ⟨w.heap.size, 0, none⟩) n n) (w.alloc (.cells (row1 (.bool false) n) 4 (0, 0))) :=
  run_mk1 49 4 _ 1 Try.underlying49 Try.info4 (by omega) n hn w

/-! ### append(want, j) -/
def iv (J : List Nat) : List Value := J.map fun (j : Nat) => Value.int .i64 (j : Int)
theorem iv_length (J : List Nat) : (iv J).length = J.length := by simp [iv]
theorem iv_snoc (J : List Nat) (j : Nat) : iv (J ++ [j]) = iv J ++ [.int .i64 (j : Int)] := by simp [iv]
def IRow (w : World) (base : Nat) (wa : Option Addr) (wc : Nat) (J : List Nat) : Prop := w.ownsRow base 3 1 (.slice wa J.length wc) J.length (iv J)
theorem irow_nil (w : World) (base : Nat) : IRow w base none 0 [] := World.ownsRow_nil w base 3 1
theorem irow_ints {w : World} {base : Nat} {wa : Option Addr} {wc : Nat} {J : List Nat} (h : IRow w base wa wc J) : Ints w wa J.length (fun i => (J.getD i 0 : Nat)) := by
  intro hp
  rcases h.2 with ⟨h0, h1⟩ | ⟨g, cap, cur, hv, _⟩
  · omega
  · simp only [Value.slice.injEq] at hv
    obtain ⟨rfl, -, rfl⟩ := hv
    refine ⟨g, 0, rfl, fun i hi => ?_⟩
    rw [Nat.zero_add, h.cellAt i (by omega)]
    simp [iv, hi]
theorem run_iapp {w : World} {base : Nat} {wa : Option Addr} {wc : Nat} {J : List Nat} (hp : IRow w base wa wc J) (j : Nat) (hb : J.length ≤ 1048576) (hbase : base ≤ w.heap.size) :
    ∃ wa' wc' w', (Builtin.append_ #[35, 35] 35 #[.slice wa J.length wc, .slice (some ⟨w.heap.size, 0, none⟩) 1 1]).run Try.prog (w.alloc (.cells #[.int .i64 (j : Int)] 3 (0, 0))) = .ok (.slice wa' (J.length + 1) wc') w' ∧ IRow w' base wa' wc' (J ++ [j])
      ∧ (w.alloc (.cells #[.int .i64 (j : Int)] 3 (0, 0))).grownBy w' (Value.slice wa J.length wc).ownBlock := by
  obtain ⟨i0, hi, hz0, hz1, hz2⟩ := info_parts Try.info3
  have hw : (w.alloc (.cells #[.int .i64 (j : Int)] 3 (0, 0))).heap[w.heap.size]? = some (.cells [Value.int .i64 (j : Int)].toArray 3 (0, 0)) := heap_alloc_new _ _
  have hnews : ∀ q u, [Value.int .i64 (j : Int)][q]? = some u → (w.alloc (.cells #[.int .i64 (j : Int)] 3 (0, 0))).cell? ((⟨w.heap.size, 0, none⟩ : Addr).add q) = some u := by
    intro q u hq
    rw [addr_add, Nat.zero_add]; exact blk_cell hw hq
  have hone : ∀ u ∈ [Value.int .i64 (j : Int)], u.oneCell' = true := by
    intro u hu
    rw [List.mem_singleton.1 hu]; rfl
  obtain ⟨v', w', hrun, hown, hgr, _⟩ := run_append_own (P := Try.prog) _ base 35 35 3 i0 _ 1 8 Try.underlying35 hi hz0 hz1 hz2 rfl (by decide) _ _ _ (hp.alloc (.cells #[.int .i64 (j : Int)] 3 (0, 0))) ⟨w.heap.size, 0, none⟩ 1 1 [Value.int .i64 (j : Int)] rfl hnews hone (by unfold maxLen; omega) (by omega) (by rw [World.size_alloc]; omega)
  obtain ⟨wa', wc', rfl⟩ : ∃ wa' wc', v' = .slice wa' (J.length + 1) wc' := by
    rcases hown.2 with ⟨rfl, h0⟩ | ⟨g, cap, cur, rfl, _⟩
    · omega
    · exact ⟨_, _, rfl⟩
  refine ⟨wa', wc', w', hrun, ?_, hgr⟩
  unfold IRow
  rw [iv_snoc, List.length_append, List.length_singleton]; exact hown
end Go.Proofs.Qxb6602477a
