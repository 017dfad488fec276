import Derived.Test.Qxb6602477aMem
namespace Go.Proofs.Qxb6602477a
open Go.ChangeShapes Go.WideShapes Go.ChangeAt Go.RowKit

theorem Try.info9 : (Try.prog.info? 9).map (fun i => (i.zero, i.size, i.bytes)) = some (some (.string ⟨#[]⟩), 1, 16) := by kernel_rfl
theorem Try.info25 : (Try.prog.info? 25).map (fun i => (i.zero, i.size, i.bytes)) = some (some (.agg #[.string ⟨#[]⟩, .string ⟨#[]⟩, .string ⟨#[]⟩, .slice none 0 0, .int .i64 0]), 5, 80) := by kernel_rfl
theorem Try.info33 : (Try.prog.info? 33).map (fun i => (i.zero, i.size, i.bytes)) = some (some (.agg #[.string ⟨#[]⟩, .string ⟨#[]⟩, .string ⟨#[]⟩, .slice none 0 0, .int .i64 0]), 5, 80) := by kernel_rfl

/-! ### cloneStrings -/
def srow (n : Nat) : Array Value := madeCells (Value.string ⟨#[]⟩).cells n
theorem srow_size (n : Nat) : (srow n).size = n := size_madeCells _ _
theorem run_mks (n : Nat) (w : World) (hn : n ≤ 1048576) : (Instr.makeSlice 23 (.int .i64 (n : Int)) (.int .i64 (n : Int))).run Try.prog w = .ok (.slice (some ⟨w.heap.size, 0, none⟩) n n) (w.alloc (.cells (srow n) 9 (0, 0))) := by
  obtain ⟨i0, hi, hz0, hz1, hz2⟩ := info_parts Try.info9
  have h := run_make (P := Try.prog) w 23 9 i0 _ Try.underlying23 hi hz0 .i64 .i64 (n : Int) (n : Int) (by omega) (by omega) (by rw [hz2]; omega) (by omega)
  rw [Int.toNat_natCast, hz1, Nat.mul_one] at h
  exact h

def FilledS (w : World) (g n k : Nat) (ns : List ByteArray) : Prop :=
  ∃ cs : List Value, w.heap[g]? = some (.cells cs.toArray 9 (0, 0)) ∧ cs.length = n ∧ ∀ i, i < k → cs[i]? = some (.string (nm ns i))
theorem filledS_start {w : World} {n : Nat} {ns : List ByteArray} : FilledS (w.alloc (.cells (srow n) 9 (0, 0))) w.heap.size n 0 ns :=
  ⟨(srow n).toList, by rw [Array.toArray_toList]; exact heap_alloc_new _ _, by simp [srow_size], fun i hi => by omega⟩
theorem filledS_set {w : World} {g n k : Nat} {ns : List ByteArray} (h : FilledS w g n k ns) (hk : k < n) : FilledS (w.setCell ⟨g, k, none⟩ (.string (nm ns k))) g n (k + 1) ns := by
  obtain ⟨cs, h1, h2, h3⟩ := h
  refine ⟨cs.set k (.string (nm ns k)), blk_set h1, by simp [h2], fun i hi => ?_⟩
  by_cases e : i = k
  · subst e; simp [h2, hk]
  · rw [List.getElem?_set_ne (by omega)]; exact h3 i (by omega)
theorem filledS_cell {w : World} {g n k : Nat} {ns : List ByteArray} (h : FilledS w g n k ns) (i : Nat) (hi : i < n) : (∃ v, w.cell? ⟨g, i, none⟩ = some v) ∧ w.frozen? ⟨g, i, none⟩ = false := by
  obtain ⟨cs, h1, h2, h3⟩ := h
  exact ⟨⟨cs[i]'(by omega), blk_cell h1 (List.getElem?_eq_getElem (by omega))⟩, blk_free h1⟩
theorem filledS_strs {w : World} {g n : Nat} {ns : List ByteArray} (h : FilledS w g n n ns) (hl : ns.length = n) : Strs w (some ⟨g, 0, none⟩) n ns := by
  obtain ⟨cs, h1, h2, h3⟩ := h
  exact ⟨hl, fun _ => ⟨g, 0, rfl, fun i hi => by rw [Nat.zero_add]; exact blk_cell h1 (h3 i hi)⟩⟩

def StrsEnd (a : Option Addr) (len : Nat) (ns : List ByteArray) (w : World) (e : Ending) (w' : World) : Prop :=
  ∃ a' cap', e = .returned (.slice a' len cap') ∧ a'.isNone = a.isNone ∧ Strs w' a' len ns ∧ Below w.heap.size w w' ∧ ∀ x, a' = some x → w.heap.size ≤ x.block

theorem q23 : ∀ (w : World) (a : Option Addr) (n c n' c' : Nat), (binOp .eql 23 (.slice a n c) (.slice none n' c')).run Try.prog w = .ok (.bool a.isNone) w :=
  fun w a n c n' c' => Lib.run_eql_slice_nil w _ _ a n c n' c' Try.underlying23
theorem q22 : ∀ (w : World) (a : Option Addr) (n c n' c' : Nat), (binOp .eql 22 (.slice a n c) (.slice none n' c')).run Try.prog w = .ok (.bool a.isNone) w :=
  fun w a n c n' c' => Lib.run_eql_slice_nil w _ _ a n c n' c' Try.underlying22

set_option maxHeartbeats 400000 in
theorem cloneStrings_any (a : Option Addr) (len cap : Nat) (ns : List ByteArray) (w : World) (h : Strs w a len ns) (hl : len ≤ 1048576) :
    Calls Try.prog 21 #[.slice a len cap] w fun e w' => StrsEnd a len ns w e w' := by
  have hq := q23
  have HH := hide h
  cases a with
  | none =>
    have hl0 : len = 0 := by
      rcases Nat.eq_zero_or_pos len with h0 | h0
      · exact h0
      · obtain ⟨b, o, e, _⟩ := h.2 h0; cases e
    subst hl0
    clear h
    go_enter Try.func21, Try.ntmps21
    go_wp2
    go_ret
    exact ⟨none, 0, rfl, rfl, unhide HH, Below.refl _ _, fun x hx => by cases hx⟩
  | some x =>
    have hmk := run_mks len w hl
    have HL := hide h.1
    clear h
    go_enter Try.func21, Try.ntmps21
    go_wp2
    go_loopw [4] (fun i wr => ∃ k : Nat, k ≤ len ∧ i = .int .i64 k ∧ FilledS wr w.heap.size len k ns ∧ Below w.heap.size w wr) (fun i _ => len - (intOf i).toNat)
    case atStart => exact ⟨0, Nat.zero_le _, rfl, filledS_start, (Below.refl _ _).alloc (Nat.le_refl _) _⟩
    case round =>
      obtain ⟨k, hk, rfl, hf, hbel⟩ := hrel
      by_cases hlt : k < len
      · obtain ⟨b, o, ha, hc⟩ := (unhide HH).2 (by omega)
        obtain rfl : x = ⟨b, o, none⟩ := Option.some.inj ha
        have hcx := cell_stays hbel (hc k hlt)
        obtain ⟨⟨v0, hv0⟩, hfr⟩ := filledS_cell hf k hlt
        have H1 := hide (filledS_set hf hlt)
        have H2 := hide (hbel.setCell (p := ⟨w.heap.size, k, none⟩) (Nat.le_refl _) (.string (nm ns k)))
        clear hf hbel hc
        generalize nm ns k = z at *
        go_wp2
        go_roundw
        case rel => exact ⟨k + 1, by omega, by go_num, unhide H1, unhide H2⟩
        case measure => simp [intOf]; omega
      · have hke : k = len := by omega
        subst hke
        go_wp2
        go_ret
        exact ⟨some ⟨w.heap.size, 0, none⟩, k, rfl, rfl, filledS_strs hf (unhide HL), hbel, fun x hx => by cases hx; exact Nat.le_refl _⟩

/-! ### cloneLGem, toGem -/
theorem strs_set {w : World} {a : Option Addr} {len : Nat} {ns : List ByteArray} (h : Strs w a len ns) (p : Addr) (v : Value) (hne : 0 < len → ∀ x, a = some x → x.block ≠ p.block) : Strs (w.setCell p v) a len ns := by
  refine ⟨h.1, fun hp => ?_⟩
  obtain ⟨b, o, e, hc⟩ := h.2 hp
  refine ⟨b, o, e, fun i hi => ?_⟩
  rw [World.cell?_setCell_other _ _ _ _ (fun c => hne hp _ e (by rw [c]))]
  exact hc i hi
theorem two_new (w : World) (o1 o2 : Obj) : w.heap.size ≤ ((w.alloc o1).alloc o2).heap.size ∧ w.heap.size < ((w.alloc o1).alloc o2).heap.size ∧ w.heap.size + 1 < ((w.alloc o1).alloc o2).heap.size := by
  rw [World.size_alloc, World.size_alloc]; omega
/-- A block of five cells, as the walk wants it. -/
theorem five {w : World} {b : Nat} {v0 v1 v2 v3 v4 : Value} {t : TypeId} (h : w.heap[b]? = some (.cells #[v0, v1, v2, v3, v4] t (0, 0))) :
    w.cell? ⟨b, 0, none⟩ = some v0 ∧ w.cell? ⟨b, 1, none⟩ = some v1 ∧ w.cell? ⟨b, 2, none⟩ = some v2 ∧ w.cell? ⟨b, 3, none⟩ = some v3 ∧ w.cell? ⟨b, 4, none⟩ = some v4 ∧ ∀ j, w.frozen? ⟨b, j, none⟩ = false := by
  refine ⟨?_, ?_, ?_, ?_, ?_, fun j => ?_⟩ <;> simp [World.cell?, World.frozen?, h]

/-- The same gem; its Requires perhaps in another place. -/
def SameGem (k k' : Kept) : Prop := k'.gem = k.gem ∧ k'.at?.isNone = k.at?.isNone

def GemEnd (k : Kept) (w : World) (e : Ending) (w' : World) : Prop :=
  ∃ k', e = .returned k'.val ∧ SameGem k k' ∧ k'.ok w' ∧ Below w.heap.size w w' ∧ ∀ x, k'.at? = some x → w.heap.size ≤ x.block

set_option maxHeartbeats 800000 in
theorem cloneLGem_any (k : Kept) (w : World) (hk : k.ok w) (hl : k.gem.req.length ≤ 1048576) :
    Calls Try.prog 8 #[k.val] w fun e w' => GemEnd k w e w' := by
  have HC := hide (fun w' (hb : Below w.heap.size w w') => cloneStrings_any k.at? k.gem.req.length k.cap k.gem.req w' (strs_stays hb hk) hl)
  have HE : Hid (∀ e w', (∃ a' cap', e = .returned (.agg #[.string k.gem.name, .string k.gem.version, .string k.gem.gemspec, .slice a' k.gem.req.length cap', .int .i64 k.gem.level]) ∧ a'.isNone = k.at?.isNone ∧ Strs w' a' k.gem.req.length k.gem.req ∧ Below w.heap.size w w' ∧ ∀ x, a' = some x → w.heap.size ≤ x.block) → GemEnd k w e w') := by
    rintro e w' ⟨a', cap', rfl, h1, h2, h3, h4⟩
    exact ⟨⟨k.gem, a', cap'⟩, rfl, ⟨rfl, h1⟩, h2, h3, h4⟩
  clear hk
  unfold Kept.val
  generalize GemEnd k w = E at *
  obtain ⟨⟨n, v, s, req, l⟩, a, cap⟩ := k
  dsimp only at HC HE hl ⊢
  generalize hrl : req.length = len at *
  clear hrl
  go_enter Try.func8, Try.ntmps8
  go_wp2_with fail
  refine (unhide HC _ (((Below.refl w.heap.size w).alloc (Nat.le_refl _) _).alloc (by simp) _)).mono ?_
  rintro e w1 ⟨a', cap', rfl, ha, hs, hb, hloc⟩
  have hne : ∀ x, a' = some x → w.heap.size + 2 ≤ x.block := by
    intro x hx; have := hloc x hx; rw [World.size_alloc, World.size_alloc] at this; omega
  have hbw := ((((Below.refl w.heap.size w).alloc (Nat.le_refl _) (Obj.cells #[Value.string n, Value.string v, Value.string s, Value.slice a len cap, Value.int IntKind.i64 l] 25)).alloc (by simp) (Obj.cells #[Value.string ⟨#[]⟩, Value.string ⟨#[]⟩, Value.string ⟨#[]⟩, Value.slice none 0 0, Value.int IntKind.i64 0] 25))).trans (hb.mono (two_new _ _ _).1)
  have e1 : w1.heap[w.heap.size]? = some (Obj.cells #[Value.string n, Value.string v, Value.string s, Value.slice a len cap, Value.int IntKind.i64 l] 25 (0, 0)) := by
    rw [hb.block w.heap.size (two_new _ _ _).2.1, Below.heap_alloc _ _ _ (by simp)]; exact heap_alloc_new _ _
  have e2 : w1.heap[w.heap.size + 1]? = some (Obj.cells #[Value.string ⟨#[]⟩, Value.string ⟨#[]⟩, Value.string ⟨#[]⟩, Value.slice none 0 0, Value.int IntKind.i64 0] 25 (0, 0)) := by
    rw [hb.block (w.heap.size + 1) (two_new _ _ _).2.2]
    have := heap_alloc_new (w.alloc (Obj.cells #[Value.string n, Value.string v, Value.string s, Value.slice a len cap, Value.int IntKind.i64 l] 25)) (Obj.cells #[Value.string ⟨#[]⟩, Value.string ⟨#[]⟩, Value.string ⟨#[]⟩, Value.slice none 0 0, Value.int IntKind.i64 0] 25)
    rw [World.size_alloc] at this
    exact this
  obtain ⟨c0, c1, c2, c3, c4, cf⟩ := five e1
  obtain ⟨r0, r1, r2, r3, r4, rf⟩ := five e2
  have HS := hide hs
  have HA := hide ha
  have HBW := hide hbw
  have HN := hide hne
  clear hs ha hbw hb e1 e2 HC hloc hne
  go_wp2
  refine bodyPost_ret (v := .agg #[.string n, .string v, .string s, .slice a' len cap', .int .i64 l]) (by simp [results, Try.results8, go_sem, r0, r1, r2, r3, r4]) rfl (unhide HE _ _ ⟨a', cap', rfl, unhide HA, ?_, ?_, fun x hx => by have := unhide HN x hx; omega⟩)
  · have hn := unhide HN
    refine strs_set (strs_set (strs_set (strs_set (strs_set (strs_set (unhide HS) _ _ ?_) _ _ ?_) _ _ ?_) _ _ ?_) _ _ ?_) _ _ ?_
    all_goals (intro _ x hx; have := hn x hx; dsimp only; omega)
  · exact ((((((unhide HBW).setCell (Nat.le_refl _) _).setCell (Nat.le_succ _) _).setCell (Nat.le_succ _) _).setCell (Nat.le_succ _) _).setCell (Nat.le_succ _) _).setCell (Nat.le_succ _) _

set_option maxHeartbeats 800000 in
theorem toGem_any (k : Kept) (w : World) : Calls Try.prog 11 #[k.val] w fun e w' => e = .returned k.val ∧ Below w.heap.size w w' := by
  unfold Kept.val
  obtain ⟨⟨n, v, s, req, l⟩, a, cap⟩ := k
  dsimp only
  generalize req.length = len at *
  go_enter Try.func11, Try.ntmps11
  go_wp2
  refine bodyPost_ret (v := .agg #[.string n, .string v, .string s, .slice a len cap, .int .i64 l]) (by simp [results, Try.results11, go_sem]) rfl ⟨rfl, ?_⟩
  exact ((Below.refl w.heap.size w).alloc (Nat.le_refl _) _).alloc (by simp) _

/-! ### cloneLGems -/
def grow (n : Nat) : Array Value := madeCells (Value.agg #[.string ⟨#[]⟩, .string ⟨#[]⟩, .string ⟨#[]⟩, .slice none 0 0, .int .i64 0]).cells (n * 5)
theorem grow_size (n : Nat) : (grow n).size = n * 5 := size_madeCells _ _
theorem run_mkg (t e : TypeId) (ht : Try.prog.underlying t = some (.slice e)) (hin : (Try.prog.info? e).map (fun i => (i.zero, i.size, i.bytes)) = some (some (.agg #[.string ⟨#[]⟩, .string ⟨#[]⟩, .string ⟨#[]⟩, .slice none 0 0, .int .i64 0]), 5, 80))
    (n : Nat) (w : World) (hn : n ≤ 1048576) : (Instr.makeSlice t (.int .i64 (n : Int)) (.int .i64 (n : Int))).run Try.prog w = .ok (.slice (some ⟨w.heap.size, 0, none⟩) n n) (w.alloc (.cells (grow n) e (0, 0))) := by
  obtain ⟨i0, hi, hz0, hz1, hz2⟩ := info_parts hin
  have h := run_make (P := Try.prog) w t e i0 _ ht hi hz0 .i64 .i64 (n : Int) (n : Int) (by omega) (by omega) (by rw [hz2]; omega) (by omega)
  rw [Int.toNat_natCast, hz1] at h
  exact h

/-- A row of gems of which the first k are laid. -/
structure FilledG (w : World) (g : Nat) (e : TypeId) (n k : Nat) (ks ks' : List Kept) : Prop where
  blk : ∃ cs : List Value, w.heap[g]? = some (.cells cs.toArray e (0, 0)) ∧ cs.length = n * 5 ∧ ∀ i, i < k → ∀ j, j < 5 → cs[i * 5 + j]? = (gk ks' i).cells[j]?
  len : ks'.length = k
  same : ∀ i, i < k → SameGem (gk ks i) (gk ks' i)
  ok : ∀ x ∈ ks', x.ok w
  loc : ∀ x ∈ ks', 0 < x.gem.req.length → ∀ p, x.at? = some p → p.block ≠ g
theorem filledG_start {w : World} {e : TypeId} {n : Nat} {ks : List Kept} : FilledG (w.alloc (.cells (grow n) e (0, 0))) w.heap.size e n 0 ks [] :=
  ⟨⟨(grow n).toList, by rw [Array.toArray_toList]; exact heap_alloc_new _ _, by simp [grow_size], fun i hi => by omega⟩, rfl, fun i hi => by omega, by simp, by simp⟩

/-- A gem laid at place p of block g. -/
def put5 (w : World) (g p : Nat) (k : Kept) : World :=
  ((((w.setCell ⟨g, p, none⟩ (.string k.gem.name)).setCell ⟨g, p + 1, none⟩ (.string k.gem.version)).setCell ⟨g, p + 1 + 1, none⟩ (.string k.gem.gemspec)).setCell ⟨g, p + 1 + 1 + 1, none⟩ (.slice k.at? k.gem.req.length k.cap)).setCell ⟨g, p + 1 + 1 + 1 + 1, none⟩ (.int .i64 k.gem.level)
theorem put5_block {w : World} {g p : Nat} {k : Kept} {cs : List Value} {e : TypeId} (h : w.heap[g]? = some (.cells cs.toArray e (0, 0))) :
    (put5 w g p k).heap[g]? = some (.cells (((((cs.set p (.string k.gem.name)).set (p + 1) (.string k.gem.version)).set (p + 1 + 1) (.string k.gem.gemspec)).set (p + 1 + 1 + 1) (.slice k.at? k.gem.req.length k.cap)).set (p + 1 + 1 + 1 + 1) (.int .i64 k.gem.level)).toArray e (0, 0)) :=
  blk_set (blk_set (blk_set (blk_set (blk_set h))))
theorem put5_below {B : Nat} {w0 w : World} {g p : Nat} {k : Kept} (h : Below B w0 w) (hg : B ≤ g) : Below B w0 (put5 w g p k) :=
  ((((h.setCell hg _).setCell hg _).setCell hg _).setCell hg _).setCell hg _
theorem put5_ok {w : World} {g p : Nat} {k x : Kept} (h : x.ok w) (hl : 0 < x.gem.req.length → ∀ q, x.at? = some q → q.block ≠ g) : x.ok (put5 w g p k) :=
  strs_set (strs_set (strs_set (strs_set (strs_set h _ _ hl) _ _ hl) _ _ hl) _ _ hl) _ _ hl

theorem gk_append_last (ks : List Kept) (x : Kept) : gk (ks ++ [x]) ks.length = x := by simp [gk]
theorem gk_append_old {ks : List Kept} {x : Kept} {i : Nat} (h : i < ks.length) : gk (ks ++ [x]) i = gk ks i := by
  unfold gk; rw [List.getD_eq_getElem?_getD, List.getD_eq_getElem?_getD, List.getElem?_append_left h]

theorem filledG_put {w w1 : World} {g n k : Nat} {e : TypeId} {ks ks' : List Kept} {x : Kept} (h : FilledG w g e n k ks ks') (hb : Below w.heap.size w w1) (hk : k < n) (hs : SameGem (gk ks k) x) (hx : x.ok w1) (hl : 0 < x.gem.req.length → ∀ q, x.at? = some q → q.block ≠ g) :
    FilledG (put5 w1 g (k * 5) x) g e n (k + 1) ks (ks' ++ [x]) := by
  obtain ⟨⟨cs, h1, h2, h3⟩, hlen, hsame, hok, hloc⟩ := h
  have h1' : w1.heap[g]? = some (.cells cs.toArray e (0, 0)) := (hb.block g (blk_lt h1)).trans h1
  refine ⟨⟨_, put5_block h1', by simp [h2], fun i hi j hj => ?_⟩, by simp [hlen], fun i hi => ?_, fun y hy => ?_, fun y hy => ?_⟩
  · by_cases hik : i = k
    · subst hik
      have e1 : gk (ks' ++ [x]) i = x := by rw [← hlen]; exact gk_append_last ks' x
      rw [e1]
      unfold Kept.cells
      rcases (show j = 0 ∨ j = 1 ∨ j = 2 ∨ j = 3 ∨ j = 4 by omega) with rfl | rfl | rfl | rfl | rfl
      · rw [List.getElem?_set_ne (by omega), List.getElem?_set_ne (by omega), List.getElem?_set_ne (by omega), List.getElem?_set_ne (by omega), Nat.add_zero, List.getElem?_set_self (by omega)]; rfl
      · rw [List.getElem?_set_ne (by omega), List.getElem?_set_ne (by omega), List.getElem?_set_ne (by omega), List.getElem?_set_self (by simp; omega)]; rfl
      · rw [List.getElem?_set_ne (by omega), List.getElem?_set_ne (by omega), show i * 5 + 2 = i * 5 + 1 + 1 from rfl, List.getElem?_set_self (by simp; omega)]; rfl
      · rw [List.getElem?_set_ne (by omega), show i * 5 + 3 = i * 5 + 1 + 1 + 1 from rfl, List.getElem?_set_self (by simp; omega)]; rfl
      · rw [show i * 5 + 4 = i * 5 + 1 + 1 + 1 + 1 from rfl, List.getElem?_set_self (by simp; omega)]; rfl
    · rw [gk_append_old (by omega), List.getElem?_set_ne (by omega), List.getElem?_set_ne (by omega), List.getElem?_set_ne (by omega), List.getElem?_set_ne (by omega), List.getElem?_set_ne (by omega)]
      exact h3 i (by omega) j hj
  · by_cases hik : i = k
    · subst hik
      have e1 : gk (ks' ++ [x]) i = x := by rw [← hlen]; exact gk_append_last ks' x
      rw [e1]; exact hs
    · rw [gk_append_old (by omega)]; exact hsame i (by omega)
  · rcases List.mem_append.1 hy with hy | hy
    · exact put5_ok (ok_stays hb (hok y hy)) (hloc y hy)
    · obtain rfl := List.mem_singleton.1 hy
      exact put5_ok hx hl
  · rcases List.mem_append.1 hy with hy | hy
    · exact hloc y hy
    · obtain rfl := List.mem_singleton.1 hy
      exact hl

theorem filledG_gems {w : World} {g n : Nat} {e : TypeId} {ks ks' : List Kept} (h : FilledG w g e n n ks ks') : Gems w (some ⟨g, 0, none⟩) n ks' := by
  obtain ⟨⟨cs, h1, h2, h3⟩, hlen, hsame, hok, hloc⟩ := h
  refine ⟨hlen, fun _ => ⟨g, 0, rfl, fun i hi => ?_⟩, hok⟩
  rw [Nat.zero_add]
  refine ⟨blk_cell h1 ?_, blk_cell h1 ?_, blk_cell h1 ?_, blk_cell h1 ?_, blk_cell h1 ?_⟩
  · exact h3 i hi 0 (by omega)
  · exact h3 i hi 1 (by omega)
  · exact h3 i hi 2 (by omega)
  · exact h3 i hi 3 (by omega)
  · exact h3 i hi 4 (by omega)
theorem filledG_cell {w w1 : World} {g n k : Nat} {e : TypeId} {ks ks' : List Kept} (h : FilledG w g e n k ks ks') (hb : Below w.heap.size w w1) :
    (∀ p, p < n * 5 → ∃ v, w1.cell? ⟨g, p, none⟩ = some v) ∧ ∀ p, w1.frozen? ⟨g, p, none⟩ = false := by
  obtain ⟨⟨cs, h1, h2, h3⟩, _⟩ := h
  have h1' : w1.heap[g]? = some (.cells cs.toArray e (0, 0)) := (hb.block g (blk_lt h1)).trans h1
  exact ⟨fun p hp => ⟨cs[p]'(by omega), blk_cell h1' (List.getElem?_eq_getElem (by omega))⟩, fun p => blk_free h1'⟩

def GemsEnd (len : Nat) (ks : List Kept) (w : World) (e : Ending) (w' : World) : Prop :=
  ∃ a' cap' ks', e = .returned (.slice a' len cap') ∧ Gems w' a' len ks' ∧ (∀ i, i < len → SameGem (gk ks i) (gk ks' i)) ∧ Below w.heap.size w w'

/-- The Requires lie from block B on. -/
def LocG (B : Nat) (ks : List Kept) : Prop := ∀ x ∈ ks, 0 < x.gem.req.length → ∀ p, x.at? = some p → B ≤ p.block
def CloneEnd (len : Nat) (ks : List Kept) (w : World) (e : Ending) (w' : World) : Prop :=
  ∃ a' cap' ks', e = .returned (.slice a' len cap') ∧ Gems w' a' len ks' ∧ (∀ i, i < len → SameGem (gk ks i) (gk ks' i)) ∧ Below w.heap.size w w' ∧ (∀ x, a' = some x → w.heap.size ≤ x.block) ∧ LocG w.heap.size ks'
theorem gems_set {w : World} {a : Option Addr} {len : Nat} {ks : List Kept} (h : Gems w a len ks) (p : Addr) (v : Value) (h1 : ∀ x, a = some x → x.block ≠ p.block) (h2 : ∀ k ∈ ks, 0 < k.gem.req.length → ∀ x, k.at? = some x → x.block ≠ p.block) : Gems (w.setCell p v) a len ks := by
  refine ⟨h.1, fun hp => ?_, fun k hk => strs_set (h.2.2 k hk) p v (h2 k hk)⟩
  obtain ⟨b, o, e, hc⟩ := h.2.1 hp
  have hne : b ≠ p.block := h1 _ e
  have c : ∀ o', (w.setCell p v).cell? ⟨b, o', none⟩ = w.cell? ⟨b, o', none⟩ := fun o' => World.cell?_setCell_other _ _ _ _ (fun c => hne (by rw [c]))
  refine ⟨b, o, e, fun i hi => ?_⟩
  have := hc i hi
  exact ⟨by rw [c]; exact this.c0, by rw [c]; exact this.c1, by rw [c]; exact this.c2, by rw [c]; exact this.c3, by rw [c]; exact this.c4⟩

theorem gems_nil {w : World} {len : Nat} {ks : List Kept} (h : Gems w none len ks) : len = 0 ∧ ks = [] := by
  have hl0 : len = 0 := by
    rcases Nat.eq_zero_or_pos len with h0 | h0
    · exact h0
    · obtain ⟨b, o, e, _⟩ := h.2.1 h0; cases e
  exact ⟨hl0, List.eq_nil_of_length_eq_zero (h.1.trans hl0)⟩

set_option maxHeartbeats 1600000 in
theorem cloneLGems_any (a : Option Addr) (len cap : Nat) (ks : List Kept) (w : World) (h : Gems w a len ks) (hl : len ≤ 1048576) (hls : ∀ i, i < len → (gk ks i).gem.req.length ≤ 1048576) :
    Calls Try.prog 7 #[.slice a len cap] w fun e w' => CloneEnd len ks w e w' := by
  have hq := q22
  have HH := hide h
  cases a with
  | none =>
    obtain ⟨rfl, rfl⟩ := gems_nil h
    clear h
    go_enter Try.func7, Try.ntmps7
    go_wp2
    go_ret
    exact ⟨none, 0, [], rfl, unhide HH, fun i hi => by omega, Below.refl _ _, fun x hx => (by cases hx), fun x hx => (by cases hx)⟩
  | some x =>
    have hmk := run_mkg 22 25 Try.underlying22 Try.info25 len w hl
    have HL := hide h.1
    have HLS := hide hls
    clear h hls
    go_enter Try.func7, Try.ntmps7
    go_wp2
    go_loopw [4] (fun i wr => ∃ k : Nat, k ≤ len ∧ i = .int .i64 k ∧ (∃ ks', FilledG wr w.heap.size 25 len k ks ks' ∧ LocG w.heap.size ks') ∧ Below w.heap.size w wr) (fun i _ => len - (intOf i).toNat)
    case atStart => exact ⟨0, Nat.zero_le _, rfl, ⟨[], filledG_start, fun x hx => (by cases hx)⟩, (Below.refl _ _).alloc (Nat.le_refl _) _⟩
    case round =>
      obtain ⟨k, hk, rfl, ⟨ks', hf, hlg⟩, hbel⟩ := hrel
      by_cases hlt : k < len
      · obtain ⟨b, o, ha, hc⟩ := (unhide HH).2.1 (by omega)
        obtain rfl : x = ⟨b, o, none⟩ := Option.some.inj ha
        obtain ⟨c0, c1, c2, c3, c4⟩ := gemAt_stays hbel (hc k hlt)
        have hok := ok_stays hbel ((unhide HH).2.2 _ (gk_mem (ks := ks) (i := k) (by rw [unhide HL]; exact hlt)))
        have HC := hide (cloneLGem_any (gk ks k) wr hok (unhide HLS k hlt))
        have HF := hide hf
        have HLg := hide hlg
        have HBel := hide hbel
        unfold Kept.val at HC
        have HE : Hid (∀ e w', GemEnd (gk ks k) wr e w' → ∃ y : Kept, e = .returned y.val ∧ SameGem (gk ks k) y ∧ y.ok w' ∧ Below wr.heap.size wr w' ∧ ∀ x, y.at? = some x → wr.heap.size ≤ x.block) := fun e w' h => h
        have HP := hide (fun (w1 : World) (y : Kept) hb hs hx hl => filledG_put (w1 := w1) (x := y) hf hb hlt hs hx hl)
        have hblt : w.heap.size < wr.heap.size := by obtain ⟨⟨cs, hcs, _⟩, _⟩ := hf; exact blk_lt hcs
        clear hc hok hf hbel ha hlg
        generalize gk ks k = z at *
        obtain ⟨⟨xn, xv, xs, xreq, xl⟩, xa, xcap⟩ := z
        dsimp only at c0 c1 c2 c3 c4 HC
        generalize hxl : xreq.length = xlen at *
        clear hxl
        go_wp2_with fail
        refine (unhide HC).mono ?_
        intro e w1 hend
        obtain ⟨y, rfl, hsame, hyok, hb1, hloc⟩ := unhide HE e w1 hend
        obtain ⟨hcell, hfr⟩ := filledG_cell (unhide HF) hb1
        obtain ⟨v0, r0⟩ := hcell (k * 5) (by omega)
        obtain ⟨v1, r1⟩ := hcell (k * 5 + 1) (by omega)
        obtain ⟨v2, r2⟩ := hcell (k * 5 + 1 + 1) (by omega)
        obtain ⟨v3, r3⟩ := hcell (k * 5 + 1 + 1 + 1) (by omega)
        obtain ⟨v4, r4⟩ := hcell (k * 5 + 1 + 1 + 1 + 1) (by omega)
        have R1 := hide (unhide HP w1 y hb1 hsame hyok (fun _ q hq => by have := hloc q hq; omega))
        have R3 : Hid (LocG w.heap.size (ks' ++ [y])) := by
          intro z hz hp p hpz
          rcases List.mem_append.1 hz with hz | hz
          · exact unhide HLg z hz hp p hpz
          · obtain rfl := List.mem_singleton.1 hz
            have := hloc p hpz; omega
        have R2 := hide (put5_below (p := k * 5) (k := y) ((unhide HBel).trans (hb1.mono (unhide HBel).size)) (Nat.le_refl _))
        unfold put5 at R1 R2
        unfold Kept.val
        clear hcell hend hsame hyok hb1 hloc HE HC HP
        obtain ⟨⟨yn, yv, ys, yreq, yl⟩, ya, ycap⟩ := y
        dsimp only at R1 R2 R3 ⊢
        generalize hyl : yreq.length = ylen at *
        clear hyl
        go_wp2
        go_roundw
        case rel => exact ⟨k + 1, by omega, by go_num, ⟨_, unhide R1, unhide R3⟩, unhide R2⟩
        case measure => simp [intOf]; omega
      · have hke : k = len := by omega
        subst hke
        go_wp2
        go_ret
        exact ⟨some ⟨w.heap.size, 0, none⟩, k, ks', rfl, filledG_gems hf, hf.same, hbel, fun x hx => (by cases hx; exact Nat.le_refl _), hlg⟩

/-- A gem that can be read lies below what is made later. -/
theorem ok_loc {w : World} {k : Kept} (h : k.ok w) : 0 < k.gem.req.length → ∀ q, k.at? = some q → q.block < w.heap.size := by
  intro hp q hq
  obtain ⟨b, o, e, hc⟩ := h.2 hp
  rw [e] at hq
  cases hq
  exact cell_lt (hc 0 hp)

set_option maxHeartbeats 1600000 in
theorem toGems_any (a : Option Addr) (len cap : Nat) (ks : List Kept) (w : World) (h : Gems w a len ks) (hl : len ≤ 1048576) :
    Calls Try.prog 10 #[.slice a len cap] w fun e w' => GemsEnd len ks w e w' := by
  have hq := q22
  have HH := hide h
  cases a with
  | none =>
    obtain ⟨rfl, rfl⟩ := gems_nil h
    clear h
    go_enter Try.func10, Try.ntmps10
    go_wp2
    go_ret
    exact ⟨none, 0, [], rfl, unhide HH, fun i hi => by omega, Below.refl _ _⟩
  | some x =>
    have hmk := run_mkg 30 33 Try.underlying30 Try.info33 len w hl
    have HL := hide h.1
    clear h
    go_enter Try.func10, Try.ntmps10
    go_wp2
    go_loopw [4] (fun i wr => ∃ k : Nat, k ≤ len ∧ i = .int .i64 k ∧ (∃ ks', FilledG wr w.heap.size 33 len k ks ks') ∧ Below w.heap.size w wr) (fun i _ => len - (intOf i).toNat)
    case atStart => exact ⟨0, Nat.zero_le _, rfl, ⟨[], filledG_start⟩, (Below.refl _ _).alloc (Nat.le_refl _) _⟩
    case round =>
      obtain ⟨k, hk, rfl, ⟨ks', hf⟩, hbel⟩ := hrel
      by_cases hlt : k < len
      · obtain ⟨b, o, ha, hc⟩ := (unhide HH).2.1 (by omega)
        obtain rfl : x = ⟨b, o, none⟩ := Option.some.inj ha
        obtain ⟨c0, c1, c2, c3, c4⟩ := gemAt_stays hbel (hc k hlt)
        have hok0 := (unhide HH).2.2 _ (gk_mem (ks := ks) (i := k) (by rw [unhide HL]; exact hlt))
        have hok := ok_stays hbel hok0
        have HC := hide (toGem_any (gk ks k) wr)
        have HF := hide hf
        have HBel := hide hbel
        unfold Kept.val at HC
        have HP := hide (fun (w1 : World) hb => filledG_put (w1 := w1) (x := gk ks k) hf hb hlt ⟨rfl, rfl⟩ (ok_stays hb hok) (fun hp q hq => by have := ok_loc hok0 hp q hq; omega))
        have HQ := hide (fun (w1 : World) (hb : Below w.heap.size w w1) => put5_below (w := w1) (p := k * 5) (k := gk ks k) (g := w.heap.size) hb (Nat.le_refl w.heap.size))
        unfold put5 at HP HQ
        clear hc hok hf hbel ha hok0
        generalize gk ks k = z at *
        obtain ⟨⟨xn, xv, xs, xreq, xl⟩, xa, xcap⟩ := z
        dsimp only at c0 c1 c2 c3 c4 HC HP HQ
        generalize hxl : xreq.length = xlen at *
        clear hxl
        go_wp2_with fail
        refine (unhide HC).mono ?_
        rintro e w1 ⟨rfl, hb1⟩
        obtain ⟨hcell, hfr⟩ := filledG_cell (unhide HF) hb1
        obtain ⟨v0, r0⟩ := hcell (k * 5) (by omega)
        obtain ⟨v1, r1⟩ := hcell (k * 5 + 1) (by omega)
        obtain ⟨v2, r2⟩ := hcell (k * 5 + 1 + 1) (by omega)
        obtain ⟨v3, r3⟩ := hcell (k * 5 + 1 + 1 + 1) (by omega)
        obtain ⟨v4, r4⟩ := hcell (k * 5 + 1 + 1 + 1 + 1) (by omega)
        have R1 := hide (unhide HP w1 hb1)
        have R2 := hide (unhide HQ w1 ((unhide HBel).trans (hb1.mono (unhide HBel).size)))
        clear hcell hb1 HC HP HQ
        go_wp2
        go_roundw
        case rel => exact ⟨k + 1, by omega, by go_num, ⟨_, unhide R1⟩, unhide R2⟩
        case measure => simp [intOf]; omega
      · have hke : k = len := by omega
        subst hke
        go_wp2
        go_ret
        exact ⟨some ⟨w.heap.size, 0, none⟩, k, ks', rfl, filledG_gems hf, hf.same, hbel⟩
end Go.Proofs.Qxb6602477a
