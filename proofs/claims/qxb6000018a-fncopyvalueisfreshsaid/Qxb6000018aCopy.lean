import Derived.Test.Qxb6000018aMem
namespace Go.Proofs.Qxb6000018a
open Go.ChangeShapes Go.WideShapes Go.ChangeAt Go.RowKit

/-- A slice that the call itself made, from block B on. -/
def OwnV (B : Nat) (w : World) (v : Value) (zs : List Int) : Prop :=
  (v = .slice none 0 0 ∧ zs = []) ∨ ∃ g, B ≤ g ∧ v = .slice (some ⟨g, 0, none⟩) zs.length zs.length ∧ Own w g zs

theorem ownV_reads {B : Nat} {w : World} {v : Value} {zs : List Int} (h : OwnV B w v zs) : Reads w v zs := by
  rcases h with h | ⟨g, _, rfl, h⟩
  · exact .inl h
  · exact own_reads h

theorem ownV_below {B B' : Nat} {w w' : World} {v : Value} {zs : List Int} (h : OwnV B w v zs) (hb : Below B' w w') (hB : w.heap.size ≤ B') : OwnV B w' v zs := by
  rcases h with h | ⟨g, hg, rfl, h⟩
  · exact .inl h
  · refine .inr ⟨g, hg, rfl, ?_⟩
    have := blk_lt h
    exact (hb.block g (by omega)).trans h

theorem clone_any (v : Value) (zs : List Int) (w : World) (h : Reads w v zs) (hl : zs.length ≤ 1048576) :
    Calls Try.prog 10 #[v] w fun e w' => ∃ v', e = .returned v' ∧ OwnV w.heap.size w' v' zs ∧ Below w.heap.size w w' := by
  rcases h with ⟨rfl, rfl⟩ | ⟨x, cap, rfl, hc⟩
  · refine (clone_nil w).mono ?_
    rintro e w' ⟨rfl, rfl⟩
    exact ⟨_, rfl, .inl ⟨rfl, rfl⟩, Below.refl _ _⟩
  · by_cases hp : 0 < zs.length
    · obtain ⟨b, o, rfl, hb, hc'⟩ := reads_at hc hp
      refine (clone_some b o cap zs w hl hb hc').mono ?_
      rintro e w' ⟨rfl, ho, hb⟩
      exact ⟨_, rfl, .inr ⟨_, Nat.le_refl _, rfl, ho⟩, hb⟩
    · obtain rfl : zs = [] := List.eq_nil_of_length_eq_zero (by omega)
      refine (clone_empty x cap w).mono ?_
      rintro e w' ⟨rfl, rfl⟩
      refine ⟨_, rfl, .inr ⟨w.heap.size, Nat.le_refl _, rfl, ?_⟩, (Below.refl _ _).alloc (Nat.le_refl _) _⟩
      exact filled_end (zs := []) (filled_start (w := w) (n := 0))

/-! ### sameBytes -/
set_option maxHeartbeats 400000 in
theorem same_empty (a1 a2 : Option Addr) (c1 c2 : Nat) (w : World) : Calls Try.prog 12 #[.slice a1 0 c1, .slice a2 0 c2] w fun e w' => e = .returned (.bool true) ∧ w' = w := by
  go_enter Try.func12, Try.ntmps12
  go_wp2
  refine wp_loop_rounds 1 ?_
  rw [rounds_succ]
  go_wp2
  go_ret
  exact ⟨rfl, rfl⟩

set_option maxHeartbeats 800000 in
theorem same_some (b1 o1 c1 b2 o2 c2 : Nat) (zs : List Int) (w : World) (hl : zs.length ≤ 1048576)
    (h1 : ∀ i, i < zs.length → w.cell? ⟨b1, o1 + i, none⟩ = some (.int .u8 (zs.getD i 0))) (h2 : ∀ i, i < zs.length → w.cell? ⟨b2, o2 + i, none⟩ = some (.int .u8 (zs.getD i 0))) :
    Calls Try.prog 12 #[.slice (some ⟨b1, o1, none⟩) zs.length c1, .slice (some ⟨b2, o2, none⟩) zs.length c2] w fun e w' => e = .returned (.bool true) ∧ ∃ n, w' = w.drewN n := by
  generalize hn : zs.length = n at *
  have H1 := hide h1
  have H2 := hide h2
  clear h1 h2
  go_enter Try.func12, Try.ntmps12
  go_wp2
  go_loopw [5] (fun i wr => ∃ k : Nat, k ≤ n ∧ i = .int .i64 k ∧ ∃ m, wr = w.drewN m) (fun i _ => n - (intOf i).toNat)
  case atStart => exact ⟨0, Nat.zero_le _, rfl, 0, rfl⟩
  case round =>
    obtain ⟨k, hk, rfl, m, rfl⟩ := hrel
    by_cases hlt : k < n
    · have hc1 := unhide H1 k hlt
      have hc2 := unhide H2 k hlt
      have hlt' : (k : Int) < (n : Int) := by omega
      generalize zs.getD k 0 = z at *
      go_wp2
      go_quiet (fail)
      go_wp2
      go_roundw
      case rel => exact ⟨k + 1, by omega, by go_num, _, rfl⟩
      case measure => simp [intOf]; omega
    · have : k = n := by omega
      subst this
      go_wp2
      go_ret
      exact ⟨rfl, m, rfl⟩
theorem same_any (v1 v2 : Value) (zs : List Int) (w : World) (h1 : Reads w v1 zs) (h2 : Reads w v2 zs) (hl : zs.length ≤ 1048576) :
    Calls Try.prog 12 #[v1, v2] w fun e w' => e = .returned (.bool true) ∧ ∃ n, w' = w.drewN n := by
  by_cases hp : 0 < zs.length
  · rcases h1 with ⟨rfl, rfl⟩ | ⟨x1, c1, rfl, hc1⟩
    · simp at hp
    rcases h2 with ⟨rfl, rfl⟩ | ⟨x2, c2, rfl, hc2⟩
    · simp at hp
    obtain ⟨b1, o1, rfl, _, hc1'⟩ := reads_at hc1 hp
    obtain ⟨b2, o2, rfl, _, hc2'⟩ := reads_at hc2 hp
    exact same_some b1 o1 c1 b2 o2 c2 zs w hl hc1' hc2'
  · obtain rfl : zs = [] := List.eq_nil_of_length_eq_zero (by omega)
    have f : ∀ v, Reads w v [] → ∃ a c, v = .slice a 0 c := by
      intro v h
      rcases h with ⟨rfl, _⟩ | ⟨x, c, rfl, _⟩
      · exact ⟨_, _, rfl⟩
      · exact ⟨_, _, rfl⟩
    obtain ⟨a1, c1, rfl⟩ := f v1 h1
    obtain ⟨a2, c2, rfl⟩ := f v2 h2
    refine (same_empty a1 a2 c1 c2 w).mono ?_
    rintro e w' ⟨rfl, rfl⟩
    exact ⟨rfl, 0, rfl⟩

/-! ### copyValue -/
theorem Try.size5 : (Try.prog.info? 5).map (·.size) = some 1 := by kernel_rfl

theorem reads_slice {w : World} {v : Value} {zs : List Int} (h : Reads w v zs) : ∃ a c, v = .slice a zs.length c := by
  rcases h with ⟨rfl, rfl⟩ | ⟨x, c, rfl, _⟩
  · exact ⟨_, _, rfl⟩
  · exact ⟨_, _, rfl⟩

/-- 'copy(v, src)' into a new row that is as long as src. -/
theorem copy_run (w0 w : World) (a : Option Addr) (c g : Nat) (zs : List Int) (h : Reads w (.slice a zs.length c) zs) (hg : w.heap[g]? = some (.cells (zrow zs.length) 5 (0, 0))) (hb : Below w0.heap.size w0 w) (hgB : w0.heap.size ≤ g) :
    ∃ w', (Builtin.copy_ #[30, 30] 3 #[.slice (some ⟨g, 0, none⟩) zs.length zs.length, .slice a zs.length c]).run Try.prog w = .ok (.int .i64 zs.length) w' ∧ Own w' g zs ∧ Below w0.heap.size w0 w' := by
  rcases h with ⟨ha, hz⟩ | ⟨x, c', hv, hc⟩
  · subst hz
    refine ⟨w, run_copy_none (P := Try.prog) w 30 30 3 5 _ _ _ _ _ _ Try.underlying30 Try.size5 (by simp), ?_, hb⟩
    have e0 : zrow 0 = #[] := Array.eq_empty_of_size_eq_zero (zrow_size 0)
    unfold Own; rw [hg]; show some (Obj.cells (zrow 0) 5 (0, 0)) = _; rw [e0]; rfl
  · simp only [Value.slice.injEq] at hv
    obtain ⟨rfl, -, rfl⟩ := hv
    have hsrc : ∀ j v, (vals zs)[j]? = some v → w.cell? (x.add j) = some v := by
      intro j v hj
      have hj' : j < zs.length := by rw [← vals_length]; exact (List.getElem?_eq_some_iff.1 hj).1
      rw [hc j hj', ← vals_get hj']; exact hj
    have hr := run_copy_row Try.prog w 30 30 3 5 g 0 zs.length zs.length x zs.length c (zrow zs.length) 5 (vals zs) Try.underlying30 Try.size5 hg (by simp [vals_length]) hsrc (by simp [vals_length, zrow_size]) (fun v hv => by simp [vals] at hv; obtain ⟨z, _, rfl⟩ := hv; rfl)
    have e : ((zrow zs.length).toList.take 0 ++ vals zs ++ (zrow zs.length).toList.drop (0 + (vals zs).length)) = vals zs := by
      simp [vals_length, zrow_size]
    rw [e, vals_length] at hr
    exact ⟨_, hr, setRow_heap w g _ _ 5 _ hg, below_setRow hb hgB _⟩

set_option maxHeartbeats 800000 in
theorem copyValue_any (k v x2 x3 : Value) (zs : List Int) (w : World) (h : Reads w v zs) (hx : ∀ x n c, v = .slice (some x) n c → 0 < zs.length → x.block < w.heap.size) (hl : zs.length ≤ 1048576) :
    Calls Try.prog 14 #[.agg #[k, v, x2, x3]] w fun e w' => e = .returned (.slice (some ⟨w.heap.size + 1, 0, none⟩) zs.length zs.length) ∧ Own w' (w.heap.size + 1) zs ∧ Below w.heap.size w w' := by
  obtain ⟨a, c, rfl⟩ := reads_slice h
  have hmk := fun w => run_mk zs.length w (by omega)
  have hb2 : Below w.heap.size w ((w.alloc (Obj.cells #[k, Value.slice a zs.length c, x2, x3] 37)).alloc (Obj.cells (zrow zs.length) 5)) :=
    ((Below.refl _ _).alloc (Nat.le_refl _) _).alloc (by simp) _
  obtain ⟨w2, hcp, ho2, hbel2⟩ := copy_run w ((w.alloc (Obj.cells #[k, Value.slice a zs.length c, x2, x3] 37)).alloc (Obj.cells (zrow zs.length) 5)) a c (w.heap.size + 1) zs
    (reads_below h hb2 hx) (by have := heap_alloc_new (w.alloc (Obj.cells #[k, Value.slice a zs.length c, x2, x3] 37)) (Obj.cells (zrow zs.length) 5); simpa using this) hb2 (by omega)
  have HO := hide ho2
  clear ho2 h hx hb2
  go_enter Try.func14, Try.ntmps14
  go_wp2
  go_ret
  exact ⟨rfl, unhide HO, hbel2⟩

theorem zzCopy_any (a0 : Option Addr) (n0 c0 : Nat) (v : Value) (x2 x3 : Int) (zs : List Int) (w : World) (hr : Reads w v zs) (hx : ∀ x n c, v = .slice (some x) n c → 0 < zs.length → x.block < w.heap.size) (hl : zs.length ≤ 1048576) :
    Calls Try.prog 11 #[.slice a0 n0 c0, v, .int .i64 x2, .int .i64 x3] w fun e w' => e = .returned (.slice (some ⟨w.heap.size + 1, 0, none⟩) zs.length zs.length) ∧ Own w' (w.heap.size + 1) zs ∧ Below w.heap.size w w' := by
  have hcv := hide (fun k x2 x3 => copyValue_any k v x2 x3 zs w hr hx hl)
  obtain ⟨a, c, rfl⟩ := reads_slice hr
  clear hr hx
  go_enter Try.func11, Try.ntmps11
  go_wp2_with fail
  refine (unhide hcv _ _ _).mono ?_
  rintro e w' ⟨rfl, ho, hb⟩
  have HO := hide ho
  clear ho
  go_wp2
  go_ret
  exact ⟨rfl, unhide HO, hb⟩

/-! ### zzBytes -/
theorem zz9_yes (a0 a1 : Option Addr) (n0 c0 n1 c1 : Nat) (x2 x3 : Int) (w : World) (h : n0 + n1 ≤ 1048576) :
    Calls Try.prog 9 #[.slice a0 n0 c0, .slice a1 n1 c1, .int .i64 x2, .int .i64 x3] w fun e w' => e = .returned (.bool true) ∧ w' = w := by
  go_enter Try.func9, Try.ntmps9
  go_wp2
  go_ret
  exact ⟨rfl, rfl⟩
theorem zz9_no (a0 a1 : Option Addr) (n0 c0 n1 c1 : Nat) (x2 x3 : Int) (w : World) (h : ¬ n0 + n1 ≤ 1048576) :
    Calls Try.prog 9 #[.slice a0 n0 c0, .slice a1 n1 c1, .int .i64 x2, .int .i64 x3] w fun e w' => e = .returned (.bool false) ∧ w' = w := by
  by_cases h0 : n0 ≤ 1048576
  · by_cases h1 : n1 ≤ 1048576
    · go_enter Try.func9, Try.ntmps9
      go_wp2
      go_ret
      exact ⟨rfl, rfl⟩
    · go_enter Try.func9, Try.ntmps9
      go_wp2
      go_ret
      exact ⟨rfl, rfl⟩
  · go_enter Try.func9, Try.ntmps9
    go_wp2
    go_ret
    exact ⟨rfl, rfl⟩
theorem zz13_yes (a0 a1 : Option Addr) (n0 c0 n1 c1 : Nat) (x2 x3 : Int) (w : World) (h : n0 + n1 ≤ 1048576) :
    Calls Try.prog 13 #[.slice a0 n0 c0, .slice a1 n1 c1, .int .i64 x2, .int .i64 x3] w fun e w' => e = .returned (.bool true) ∧ w' = w := by
  go_enter Try.func13, Try.ntmps13
  go_wp2
  go_ret
  exact ⟨rfl, rfl⟩
theorem zz13_no (a0 a1 : Option Addr) (n0 c0 n1 c1 : Nat) (x2 x3 : Int) (w : World) (h : ¬ n0 + n1 ≤ 1048576) :
    Calls Try.prog 13 #[.slice a0 n0 c0, .slice a1 n1 c1, .int .i64 x2, .int .i64 x3] w fun e w' => e = .returned (.bool false) ∧ w' = w := by
  by_cases h0 : n0 ≤ 1048576
  · by_cases h1 : n1 ≤ 1048576
    · go_enter Try.func13, Try.ntmps13
      go_wp2
      go_ret
      exact ⟨rfl, rfl⟩
    · go_enter Try.func13, Try.ntmps13
      go_wp2
      go_ret
      exact ⟨rfl, rfl⟩
  · go_enter Try.func13, Try.ntmps13
    go_wp2
    go_ret
    exact ⟨rfl, rfl⟩

/-- From what the row says of an argument. -/
theorem reads_of_row {w : World} {a : Option Addr} {len cap : Nat} {zs : List Int}
    (h : (a = none ∧ len = 0 ∧ cap = 0 ∧ zs = []) ∨ ∃ x, a = some x ∧ len ≤ cap ∧ cap ≤ maxLen ∧ zs.length = cap ∧ (∀ i, i < zs.length → w.cell? (x.add i) = some (.int .u8 (zs.getD i 0))) ∧ ∀ n ∈ zs, (Lit.int .u8 n).wf = true) :
    ∃ ys : List Int, ys.length = len ∧ (∀ n ∈ ys, (Lit.int .u8 n).wf = true) ∧ Reads w (.slice a len cap) ys := by
  rcases h with ⟨rfl, rfl, rfl, rfl⟩ | ⟨x, rfl, h1, _, h3, h4, h5⟩
  · exact ⟨[], rfl, by simp, .inl ⟨rfl, rfl⟩⟩
  · have hl : (zs.take len).length = len := by simp; omega
    refine ⟨zs.take len, hl, fun n hn => h5 n (List.mem_of_mem_take hn), .inr ⟨x, cap, by rw [hl], fun i hi => ?_⟩⟩
    rw [hl] at hi
    rw [h4 i (by omega)]
    simp [List.getD_eq_getElem?_getD, hi]

/-- Where a slice that can be read has an element, its block is there. -/
theorem reads_lt {w : World} {v : Value} {zs : List Int} (h : Reads w v zs) : ∀ x n c, v = .slice (some x) n c → 0 < zs.length → x.block < w.heap.size := by
  rintro x n c rfl hp
  rcases h with ⟨h, _⟩ | ⟨y, c', hv, hc⟩
  · cases h
  · simp only [Value.slice.injEq, Option.some.injEq] at hv
    obtain ⟨rfl, -, -⟩ := hv
    obtain ⟨b, o, rfl, hb, _⟩ := reads_at hc hp
    exact hb
end Go.Proofs.Qxb6000018a
