import Derived.Test.Qxb6000496aAdd
namespace Go.Proofs.Qxb6000496a
open Go.ChangeShapes Go.WideShapes Go.ChangeAt Go.RowKit

theorem Try.info9 : (Try.prog.info? 9).map (fun i => (i.zero, i.size, i.bytes)) = some (some (.string ⟨#[]⟩), 1, 16) := by kernel_rfl

def svals (ns : List ByteArray) : List Value := ns.map Value.string
theorem svals_get {ns : List ByteArray} {i : Nat} (h : i < ns.length) : (svals ns)[i]? = some (.string (ns.getD i ⟨#[]⟩)) := by
  simp [svals, h]
theorem svals_length (ns : List ByteArray) : (svals ns).length = ns.length := by simp [svals]

/-- A row of strings of the call's own. -/
def OwnS (w : World) (b : Nat) (ns : List ByteArray) : Prop := w.heap[b]? = some (.cells (svals ns).toArray 9 (0, 0))
theorem ownS_cell {w : World} {b i : Nat} {ns : List ByteArray} (h : OwnS w b ns) (hi : i < ns.length) : w.cell? ⟨b, i, none⟩ = some (.string (ns.getD i ⟨#[]⟩)) := blk_cell h (svals_get hi)

def srow (n : Nat) : Array Value := madeCells (Value.string ⟨#[]⟩).cells n
theorem srow_size (n : Nat) : (srow n).size = n := size_madeCells _ _
theorem run_mks (n : Nat) (w : World) (hn : n ≤ 1048576) : (Instr.makeSlice 29 (.int .i64 (n : Int)) (.int .i64 (n : Int))).run Try.prog w = .ok (.slice (some ⟨w.heap.size, 0, none⟩) n n) (w.alloc (.cells (srow n) 9 (0, 0))) := by
  obtain ⟨i0, hi, hz0, hz1, hz2⟩ := info_parts Try.info9
  have h := run_make (P := Try.prog) w 29 9 i0 _ Try.underlying29 hi hz0 .i64 .i64 (n : Int) (n : Int) (by omega) (by omega) (by rw [hz2]; omega) (by omega)
  rw [Int.toNat_natCast, hz1, Nat.mul_one] at h
  exact h

def FilledS (w : World) (g n k : Nat) (ns : List ByteArray) : Prop :=
  ∃ cs : List Value, w.heap[g]? = some (.cells cs.toArray 9 (0, 0)) ∧ cs.length = n ∧ ∀ i, i < k → cs[i]? = some (.string (ns.getD i ⟨#[]⟩))
theorem filledS_start {w : World} {n : Nat} {ns : List ByteArray} : FilledS (w.alloc (.cells (srow n) 9 (0, 0))) w.heap.size n 0 ns :=
  ⟨(srow n).toList, by rw [Array.toArray_toList]; exact heap_alloc_new _ _, by simp [srow_size], fun i hi => by omega⟩
theorem filledS_set {w : World} {g n k : Nat} {ns : List ByteArray} (h : FilledS w g n k ns) (hk : k < n) : FilledS (w.setCell ⟨g, k, none⟩ (.string (ns.getD k ⟨#[]⟩))) g n (k + 1) ns := by
  obtain ⟨cs, h1, h2, h3⟩ := h
  refine ⟨cs.set k (.string (ns.getD k ⟨#[]⟩)), blk_set h1, by simp [h2], fun i hi => ?_⟩
  by_cases e : i = k
  · subst e; simp [h2, hk]
  · rw [List.getElem?_set_ne (by omega)]; exact h3 i (by omega)
theorem filledS_end {w : World} {g : Nat} {ns : List ByteArray} (h : FilledS w g ns.length ns.length ns) : OwnS w g ns := by
  obtain ⟨cs, h1, h2, h3⟩ := h
  have e : cs = svals ns := by
    apply List.ext_getElem?
    intro i
    by_cases hi : i < ns.length
    · rw [h3 i hi, svals_get hi]
    · rw [List.getElem?_eq_none (by omega), List.getElem?_eq_none (by rw [svals_length]; omega)]
  unfold OwnS
  rw [← e]; exact h1
theorem filledS_cell {w : World} {g n k : Nat} {ns : List ByteArray} (h : FilledS w g n k ns) (i : Nat) (hi : i < n) : (∃ v, w.cell? ⟨g, i, none⟩ = some v) ∧ w.frozen? ⟨g, i, none⟩ = false := by
  obtain ⟨cs, h1, h2, h3⟩ := h
  exact ⟨⟨cs[i]'(by omega), blk_cell h1 (List.getElem?_eq_getElem (by omega))⟩, blk_free h1⟩

/-! ### zzSeenBefore, zzContains -/
theorem isIn_take_yes {ns : List ByteArray} {i e : Nat} {s : ByteArray} (he : e < i) (hi : i ≤ ns.length) (h : ns.getD e ⟨#[]⟩ = s) : Tab.isIn (ns.take i) s = true := by
  rw [Tab.isIn_iff, ← h, List.mem_take_iff_getElem]
  exact ⟨e, by omega, by simp [show e < ns.length by omega]⟩
theorem isIn_take_no {ns : List ByteArray} {i : Nat} {s : ByteArray} (h : ∀ e, e < i → ns.getD e ⟨#[]⟩ ≠ s) : Tab.isIn (ns.take i) s = false := by
  rw [Bool.eq_false_iff]
  intro c
  rw [Tab.isIn_iff, List.mem_take_iff_getElem] at c
  obtain ⟨e, he, e2⟩ := c
  exact h e (by omega) (by rw [← e2]; simp [show e < ns.length by omega])

set_option maxHeartbeats 800000 in
theorem seen_any (b n c i : Nat) (ns : List ByteArray) (w : World) (ho : OwnS w b ns) (hl : ns.length = n) (hn : n ≤ 1048576) (hi : i < n) :
    Calls Try.prog 10 #[.slice (some ⟨b, 0, none⟩) n c, .int .i64 i] w fun e w' => e = .returned (.bool (Tab.isIn (ns.take i) (ns.getD i ⟨#[]⟩))) ∧ ∃ m, w' = w.drewN m := by
  have ci := ownS_cell ho (i := i) (by omega)
  have HO := hide ho
  have HL := hide hl
  have HY := hide (fun (e : Nat) (he : e < i) (h : ns.getD e ⟨#[]⟩ = ns.getD i ⟨#[]⟩) => isIn_take_yes (ns := ns) he (by omega) h)
  have HN := hide (isIn_take_no (ns := ns) (i := i) (s := ns.getD i ⟨#[]⟩))
  clear ho hl
  generalize hs : ns.getD i ⟨#[]⟩ = s at *
  clear hs
  generalize Tab.isIn (ns.take i) s = r at *
  go_enter Try.func10, Try.ntmps10
  go_wp2
  go_loopw [5] (fun t wr => ∃ k : Nat, k ≤ i ∧ t = .int .i64 k ∧ Hid (∀ e, e < k → ns.getD e ⟨#[]⟩ ≠ s) ∧ ∃ m, wr = w.drewN m) (fun t _ => i - (intOf t).toNat)
  case atStart => exact ⟨0, Nat.zero_le _, rfl, fun e he => absurd he (Nat.not_lt_zero e), 0, rfl⟩
  case round =>
    obtain ⟨k, hk, rfl, hno, m, rfl⟩ := hrel
    by_cases hlt : k < i
    · have ck := ownS_cell (unhide HO) (i := k) (by have := unhide HL; omega)
      have hkn : (k : Int) < (n : Int) := by omega
      have hin : (i : Int) < (n : Int) := by omega
      by_cases hsame : ns.getD k ⟨#[]⟩ = s
      · have hr := hide (unhide HY k hlt hsame)
        rw [hsame] at ck
        have hq := str_refl s
        clear hsame
        go_wp2
        go_quiet (fail)
        go_wp2
        go_ret
        exact ⟨by rw [unhide hr]; rfl, _, World.drewN_drewN _ _ _⟩
      · have hq := str_ne hsame
        have hno2 := hide (show ∀ e, e < k + 1 → ns.getD e ⟨#[]⟩ ≠ s from fun e he => by
          by_cases h : e = k
          · subst h; exact hsame
          · exact unhide hno e (by omega))
        clear hsame
        generalize ns.getD k ⟨#[]⟩ = t at *
        go_wp2
        go_quiet (fail)
        go_wp2
        go_roundw
        case rel => exact ⟨k + 1, by omega, by go_num, unhide hno2, _, rfl⟩
        case measure => simp [intOf]; omega
    · have hr := hide (unhide HN (fun e he => unhide hno e (by omega)))
      go_wp2
      go_ret
      exact ⟨by rw [unhide hr]; rfl, m, rfl⟩

set_option maxHeartbeats 800000 in
theorem contains_any (b n c : Nat) (s : ByteArray) (ns : List ByteArray) (w : World) (ho : OwnS w b ns) (hl : ns.length = n) (hn : n ≤ 1048576) :
    Calls Try.prog 13 #[.slice (some ⟨b, 0, none⟩) n c, .string s] w fun e w' => e = .returned (.bool (Tab.isIn ns s)) ∧ w' = w := by
  have HO := hide ho
  have HL := hide hl
  have HY := hide (fun (e : Nat) (he : e < n) (h : ns.getD e ⟨#[]⟩ = s) => isIn_take_yes (ns := ns) he (by omega) h)
  have HN := hide (isIn_take_no (ns := ns) (i := n) (s := s))
  have et : ns.take n = ns := by rw [← hl, List.take_length]
  rw [et] at HY HN
  clear ho hl et
  generalize Tab.isIn ns s = r at *
  go_enter Try.func13, Try.ntmps13
  go_wp2
  go_loop [5] (fun t => ∃ k : Nat, k ≤ n ∧ t = .int .i64 k ∧ Hid (∀ e, e < k → ns.getD e ⟨#[]⟩ ≠ s)) (fun t => n - (intOf t).toNat)
  case atStart => exact ⟨0, Nat.zero_le _, rfl, fun e he => absurd he (Nat.not_lt_zero e)⟩
  case round =>
    obtain ⟨k, hk, rfl, hno⟩ := hrel
    by_cases hlt : k < n
    · have ck := ownS_cell (unhide HO) (i := k) (by have := unhide HL; omega)
      by_cases hsame : ns.getD k ⟨#[]⟩ = s
      · have hr := hide (unhide HY k hlt hsame)
        rw [hsame] at ck
        have hq := str_refl s
        clear hsame
        go_wp2
        go_ret
        exact ⟨by rw [unhide hr]; rfl, rfl⟩
      · have hq := str_ne hsame
        have hno2 := hide (show ∀ e, e < k + 1 → ns.getD e ⟨#[]⟩ ≠ s from fun e he => by
          by_cases h : e = k
          · subst h; exact hsame
          · exact unhide hno e (by omega))
        clear hsame
        generalize ns.getD k ⟨#[]⟩ = t at *
        go_wp2
        go_round
        case rel => exact ⟨k + 1, by omega, by go_num, unhide hno2⟩
        case measure => simp [intOf]; omega
    · have hr := hide (unhide HN (fun e he => unhide hno e (by omega)))
      go_wp2
      go_ret
      exact ⟨by rw [unhide hr]; rfl, rfl⟩

/-! ### zzBytes -/
/-- A slice of strings that came in. -/
def ReadsS (w : World) (a : Option Addr) (len cap : Nat) (ns : List ByteArray) : Prop :=
  ns.length = len ∧ ((a = none ∧ len = 0 ∧ cap = 0) ∨ ∃ x, a = some x ∧ (∀ i, i < len → w.cell? (x.add i) = some (.string (ns.getD i ⟨#[]⟩))))
theorem readsS_at {w : World} {x : Addr} {len : Nat} {ns : List ByteArray} (hc : ∀ i, i < len → w.cell? (x.add i) = some (.string (ns.getD i ⟨#[]⟩))) (hp : 0 < len) :
    ∃ b o, x = ⟨b, o, none⟩ ∧ b < w.heap.size ∧ ∀ i, i < len → w.cell? ⟨b, o + i, none⟩ = some (.string (ns.getD i ⟨#[]⟩)) := by
  obtain ⟨b, o, s⟩ := x
  have h0 := hc 0 hp
  have hs : s = none := by
    cases s with
    | none => rfl
    | some s =>
      exfalso
      have e : (⟨b, o, some s⟩ : Addr).add 0 = ⟨b, o, some s⟩ := rfl
      rw [e] at h0
      unfold World.cell? at h0
      split at h0
      · simp at h0
      · cases h0
  subst hs
  refine ⟨b, o, rfl, ?_, fun i hi => by rw [← addr_add]; exact hc i hi⟩
  rw [addr_add] at h0
  unfold World.cell? at h0
  split at h0
  · rename_i h; exact blk_lt h
  · cases h0

theorem readsS_of {w : World} {x : Addr} {len cap : Nat} {ss : List ByteArray} (hl : len ≤ cap) (hz : ss.length = cap) (hcell : ∀ i, i < ss.length → w.cell? (x.add i) = some (.string (ss.getD i ByteArray.empty))) : ∃ ns, ReadsS w (some x) len cap ns := by
  refine ⟨ss.take len, by simp; omega, .inr ⟨x, rfl, fun i hi => ?_⟩⟩
  rw [hcell i (by omega)]
  simp [List.getD_eq_getElem?_getD, hi, show i < ss.length by omega]

def BytesEnd (len : Nat) (ns : List ByteArray) (w : World) (e : Ending) (w' : World) : Prop :=
  ∃ r, e = .returned (.bool r) ∧ (r = true → len ≤ 1048576 ∧ ∀ i, i < len → (ns.getD i ⟨#[]⟩).size ≤ 1048576) ∧ w' = w

set_option maxHeartbeats 800000 in
theorem bytes9_zero (a : Option Addr) (cap : Nat) (ns : List ByteArray) (w : World) : Calls Try.prog 9 #[.slice a 0 cap] w fun e w' => BytesEnd 0 ns w e w' := by
  go_enter Try.func9, Try.ntmps9
  go_wp2
  refine wp_loop_rounds 1 ?_
  rw [rounds_succ]
  go_wp2
  go_ret
  exact ⟨true, rfl, fun _ => ⟨by omega, fun i hi => absurd hi (Nat.not_lt_zero i)⟩, rfl⟩

set_option maxHeartbeats 800000 in
theorem bytes9_some (b o len cap : Nat) (ns : List ByteArray) (w : World) (hc : ∀ i, i < len → w.cell? ⟨b, o + i, none⟩ = some (.string (ns.getD i ⟨#[]⟩))) : Calls Try.prog 9 #[.slice (some ⟨b, o, none⟩) len cap] w fun e w' => BytesEnd len ns w e w' := by
  have HC := hide hc
  clear hc
  by_cases hlen : len ≤ 1048576
  · go_enter Try.func9, Try.ntmps9
    go_wp2
    go_loop [3, 4] (fun z t => ∃ k : Nat, k ≤ len ∧ t = .int .i64 k ∧ (∃ q : Int, 0 ≤ q ∧ q ≤ 1048576 ∧ z = .int .i64 q) ∧ Hid (∀ i, i < k → (ns.getD i ⟨#[]⟩).size ≤ 1048576)) (fun _ t => len - (intOf t).toNat)
    case atStart => exact ⟨0, Nat.zero_le _, rfl, ⟨len, by omega, by omega, rfl⟩, fun e he => absurd he (Nat.not_lt_zero e)⟩
    case round =>
      obtain ⟨k, hk, rfl, ⟨q, q0, q1, rfl⟩, hz⟩ := hrel
      by_cases hlt : k < len
      · have ck := unhide HC k hlt
        have hz2 := hide (fun (h : (ns.getD k ⟨#[]⟩).size ≤ 1048576) => show ∀ i, i < k + 1 → (ns.getD i ⟨#[]⟩).size ≤ 1048576 from fun i hi => by
          by_cases e : i = k
          · subst e; exact h
          · exact unhide hz i (by omega))
        generalize ns.getD k ⟨#[]⟩ = s at *
        by_cases h1 : s.size ≤ 1048576
        · by_cases h2 : q + s.size ≤ 1048576
          · go_wp2
            go_round
            case rel => exact ⟨k + 1, by omega, by go_num, ⟨_, by omega, h2, rfl⟩, unhide hz2 h1⟩
            case measure => simp [intOf]; omega
          · go_wp2
            go_ret
            exact ⟨false, rfl, (fun h => by cases h), rfl⟩
        · go_wp2
          go_ret
          exact ⟨false, rfl, (fun h => by cases h), rfl⟩
      · go_wp2
        go_ret
        exact ⟨true, rfl, fun _ => ⟨hlen, fun i hi => unhide hz i (by omega)⟩, rfl⟩
  · go_enter Try.func9, Try.ntmps9
    go_wp2
    go_ret
    exact ⟨false, rfl, (fun h => by cases h), rfl⟩

theorem bytes9_any (a : Option Addr) (len cap : Nat) (ns : List ByteArray) (w : World) (h : ReadsS w a len cap ns) : Calls Try.prog 9 #[.slice a len cap] w fun e w' => BytesEnd len ns w e w' := by
  by_cases hp : 0 < len
  · rcases h.2 with ⟨_, h, _⟩ | ⟨x, rfl, hc⟩
    · omega
    · obtain ⟨b, o, rfl, _, hc'⟩ := readsS_at hc hp
      exact bytes9_some b o len cap ns w hc'
  · obtain rfl : len = 0 := by omega
    exact bytes9_zero a cap ns w

set_option maxHeartbeats 800000 in
theorem bytes12_zero (a : Option Addr) (cap : Nat) (x1 : Int) (ns : List ByteArray) (w : World) : Calls Try.prog 12 #[.slice a 0 cap, .int .i64 x1] w fun e w' => BytesEnd 0 ns w e w' := by
  go_enter Try.func12, Try.ntmps12
  go_wp2
  refine wp_loop_rounds 1 ?_
  rw [rounds_succ]
  go_wp2
  go_ret
  exact ⟨true, rfl, fun _ => ⟨by omega, fun i hi => absurd hi (Nat.not_lt_zero i)⟩, rfl⟩

set_option maxHeartbeats 800000 in
theorem bytes12_some (b o len cap : Nat) (x1 : Int) (ns : List ByteArray) (w : World) (hc : ∀ i, i < len → w.cell? ⟨b, o + i, none⟩ = some (.string (ns.getD i ⟨#[]⟩))) : Calls Try.prog 12 #[.slice (some ⟨b, o, none⟩) len cap, .int .i64 x1] w fun e w' => BytesEnd len ns w e w' := by
  have HC := hide hc
  clear hc
  by_cases hlen : len ≤ 1048576
  · go_enter Try.func12, Try.ntmps12
    go_wp2
    go_loop [5, 6] (fun z t => ∃ k : Nat, k ≤ len ∧ t = .int .i64 k ∧ (∃ q : Int, 0 ≤ q ∧ q ≤ 1048576 ∧ z = .int .i64 q) ∧ Hid (∀ i, i < k → (ns.getD i ⟨#[]⟩).size ≤ 1048576)) (fun _ t => len - (intOf t).toNat)
    case atStart => exact ⟨0, Nat.zero_le _, rfl, ⟨len, by omega, by omega, rfl⟩, fun e he => absurd he (Nat.not_lt_zero e)⟩
    case round =>
      obtain ⟨k, hk, rfl, ⟨q, q0, q1, rfl⟩, hz⟩ := hrel
      by_cases hlt : k < len
      · have ck := unhide HC k hlt
        have hz2 := hide (fun (h : (ns.getD k ⟨#[]⟩).size ≤ 1048576) => show ∀ i, i < k + 1 → (ns.getD i ⟨#[]⟩).size ≤ 1048576 from fun i hi => by
          by_cases e : i = k
          · subst e; exact h
          · exact unhide hz i (by omega))
        generalize ns.getD k ⟨#[]⟩ = s at *
        by_cases h1 : s.size ≤ 1048576
        · by_cases h2 : q + s.size ≤ 1048576
          · go_wp2
            go_round
            case rel => exact ⟨k + 1, by omega, by go_num, ⟨_, by omega, h2, rfl⟩, unhide hz2 h1⟩
            case measure => simp [intOf]; omega
          · go_wp2
            go_ret
            exact ⟨false, rfl, (fun h => by cases h), rfl⟩
        · go_wp2
          go_ret
          exact ⟨false, rfl, (fun h => by cases h), rfl⟩
      · go_wp2
        go_ret
        exact ⟨true, rfl, fun _ => ⟨hlen, fun i hi => unhide hz i (by omega)⟩, rfl⟩
  · go_enter Try.func12, Try.ntmps12
    go_wp2
    go_ret
    exact ⟨false, rfl, (fun h => by cases h), rfl⟩

theorem bytes12_any (a : Option Addr) (len cap : Nat) (x1 : Int) (ns : List ByteArray) (w : World) (h : ReadsS w a len cap ns) : Calls Try.prog 12 #[.slice a len cap, .int .i64 x1] w fun e w' => BytesEnd len ns w e w' := by
  by_cases hp : 0 < len
  · rcases h.2 with ⟨_, h, _⟩ | ⟨x, rfl, hc⟩
    · omega
    · obtain ⟨b, o, rfl, _, hc'⟩ := readsS_at hc hp
      exact bytes12_some b o len cap x1 ns w hc'
  · obtain rfl : len = 0 := by omega
    exact bytes12_zero a cap x1 ns w
end Go.Proofs.Qxb6000496a
