import Derived.Test.Qxb6000496aHolds
namespace Go.Proofs.Qxb6000496a
open Go.ChangeShapes Go.WideShapes Go.ChangeAt Go.RowKit

set_option maxHeartbeats 3200000 in
theorem holds_nil (extra : Int) (w : World) : Calls Try.prog 5 #[.slice none 0 0, .int .i64 extra] w fun e w' => e = .returned (.bool true) ∧ Below w.heap.size w w' := by
  have HB := hide (bytes12_zero none 0 extra [] w)
  go_enter Try.func5, Try.ntmps5
  go_wp2_with fail
  refine (unhide HB).mono ?_
  rintro e w1 ⟨r, rfl, hr, rfl⟩
  clear hr HB
  cases r with
  | false =>
    go_wp2
    go_ret
    exact ⟨rfl, Below.refl _ _⟩
  | true =>
    go_wp2
    refine wp_loop_rounds 1 ?_
    rw [rounds_succ]
    by_cases hx0 : extra < 0
    · go_wp2
      go_ret
      exact ⟨rfl, Below.refl _ _⟩
    by_cases hx1 : 65536 < extra
    · go_wp2
      go_ret
      exact ⟨rfl, Below.refl _ _⟩
    go_wp2_with fail
    refine (zznew_any 0 extra w1 (by omega) (by omega) (by omega)).mono ?_
    rintro e w2 ⟨n, g, c', hsd, rfl, ht, hg, hb2⟩
    have HT := hide ht
    have HB := hide (hb2)
    have hn : n ≤ 1048576 := by have := hsd.least; omega
    have hcell : ∀ i, i < n → (List.replicate n (none : Option ByteArray))[i]? = some none := by
      intro i hi; rw [List.getElem?_replicate, if_pos hi]
    have HC := hide hcell
    clear hsd ht hg hb2 hcell
    go_wp2
    refine wp_loop_rounds 1 ?_
    rw [rounds_succ]
    go_wp2_with fail
    refine (zzlen_any (some ⟨g, 0, none⟩) n c' w2).mono ?_
    rintro e w5 ⟨rfl, rfl⟩
    go_wp2
    go_loopw [13, 14] (fun z t wx => ∃ j : Nat, j ≤ n ∧ t = .int .i64 j ∧ z = .int .i64 0 ∧ ∃ m, wx = w5.drewN m) (fun _ t _ => n - (intOf t).toNat)
    case atStart => exact ⟨0, Nat.zero_le _, rfl, rfl, 0, rfl⟩
    case round =>
      obtain ⟨j, hj, rfl, rfl, m, rfl⟩ := hrel
      by_cases hjn : j < n
      · go_wp2_with fail
        refine (zzslot_any g n c' j (List.replicate n .none) .none _ (by exact unhide HT) (by simp) (by omega) (unhide HC j hjn)).mono ?_
        rintro e w6 ⟨rfl, m2, rfl⟩
        go_wp2
        go_roundw
        case rel => exact ⟨j + 1, by omega, by go_num, rfl, _, rfl⟩
        case measure => simp [intOf]; omega
      · go_wp2
        refine wp_loop_rounds 1 ?_
        rw [rounds_succ]
        go_wp2
        go_loopw [18, 19] (fun z t wx => ∃ j : Nat, j ≤ n ∧ t = .int .i64 j ∧ z = .int .i64 0 ∧ ∃ m, wx = w5.drewN m) (fun _ t _ => n - (intOf t).toNat)
        case atStart => exact ⟨0, Nat.zero_le _, rfl, rfl, m, rfl⟩
        case round =>
          obtain ⟨j, hj, rfl, rfl, m, rfl⟩ := hrel
          by_cases hjn : j < n
          · go_wp2_with fail
            refine (zzslot_any g n c' j (List.replicate n .none) .none _ (by exact unhide HT) (by simp) (by omega) (unhide HC j hjn)).mono ?_
            rintro e w6 ⟨rfl, m2, rfl⟩
            go_wp2
            go_roundw
            case rel => exact ⟨j + 1, by omega, by go_num, rfl, _, rfl⟩
            case measure => simp [intOf]; omega
          · go_wp2
            go_ret
            exact ⟨rfl, below_drewN (unhide HB) m⟩

set_option maxHeartbeats 3200000 in
theorem holds_empty (x : Addr) (cap : Nat) (extra : Int) (w : World) : Calls Try.prog 5 #[.slice (some x) 0 cap, .int .i64 extra] w fun e w' => e = .returned (.bool true) ∧ Below w.heap.size w w' := by
  have HB := hide (bytes12_zero (some x) cap extra [] w)
  go_enter Try.func5, Try.ntmps5
  go_wp2_with fail
  refine (unhide HB).mono ?_
  rintro e w1 ⟨r, rfl, hr, rfl⟩
  clear hr HB
  cases r with
  | false =>
    go_wp2
    go_ret
    exact ⟨rfl, Below.refl _ _⟩
  | true =>
    have hmk := run_mks 0 w1 (by omega)
    rw [show ((0 : Nat) : Int) = 0 from rfl] at hmk
    go_wp2
    refine wp_loop_rounds 1 ?_
    rw [rounds_succ]
    by_cases hx0 : extra < 0
    · go_wp2
      go_ret
      exact ⟨rfl, Below.refl _ _⟩
    by_cases hx1 : 65536 < extra
    · go_wp2
      go_ret
      exact ⟨rfl, Below.refl _ _⟩
    go_wp2
    refine wp_loop_rounds 1 ?_
    rw [rounds_succ]
    go_wp2_with fail
    refine (zznew_any 0 extra _ (by omega) (by omega) (by omega)).mono ?_
    rintro e w2 ⟨n, g, c', hsd, rfl, ht, hg, hb2⟩
    have HT := hide ht
    have HB := hide (((Below.refl w1.heap.size w1).alloc (Nat.le_refl _) (.cells (srow 0) 9 (0, 0))).trans (hb2.mono (by simp)))
    have hn : n ≤ 1048576 := by have := hsd.least; omega
    have hcell : ∀ i, i < n → (List.replicate n (none : Option ByteArray))[i]? = some none := by
      intro i hi; rw [List.getElem?_replicate, if_pos hi]
    have HC := hide hcell
    clear hsd ht hg hb2 hcell
    go_wp2
    refine wp_loop_rounds 1 ?_
    rw [rounds_succ]
    go_wp2_with fail
    refine (zzlen_any (some ⟨g, 0, none⟩) n c' w2).mono ?_
    rintro e w5 ⟨rfl, rfl⟩
    go_wp2
    go_loopw [13, 14] (fun z t wx => ∃ j : Nat, j ≤ n ∧ t = .int .i64 j ∧ z = .int .i64 0 ∧ ∃ m, wx = w5.drewN m) (fun _ t _ => n - (intOf t).toNat)
    case atStart => exact ⟨0, Nat.zero_le _, rfl, rfl, 0, rfl⟩
    case round =>
      obtain ⟨j, hj, rfl, rfl, m, rfl⟩ := hrel
      by_cases hjn : j < n
      · go_wp2_with fail
        refine (zzslot_any g n c' j (List.replicate n .none) .none _ (by exact unhide HT) (by simp) (by omega) (unhide HC j hjn)).mono ?_
        rintro e w6 ⟨rfl, m2, rfl⟩
        go_wp2
        go_roundw
        case rel => exact ⟨j + 1, by omega, by go_num, rfl, _, rfl⟩
        case measure => simp [intOf]; omega
      · go_wp2
        refine wp_loop_rounds 1 ?_
        rw [rounds_succ]
        go_wp2
        go_loopw [18, 19] (fun z t wx => ∃ j : Nat, j ≤ n ∧ t = .int .i64 j ∧ z = .int .i64 0 ∧ ∃ m, wx = w5.drewN m) (fun _ t _ => n - (intOf t).toNat)
        case atStart => exact ⟨0, Nat.zero_le _, rfl, rfl, m, rfl⟩
        case round =>
          obtain ⟨j, hj, rfl, rfl, m, rfl⟩ := hrel
          by_cases hjn : j < n
          · go_wp2_with fail
            refine (zzslot_any g n c' j (List.replicate n .none) .none _ (by exact unhide HT) (by simp) (by omega) (unhide HC j hjn)).mono ?_
            rintro e w6 ⟨rfl, m2, rfl⟩
            go_wp2
            go_roundw
            case rel => exact ⟨j + 1, by omega, by go_num, rfl, _, rfl⟩
            case measure => simp [intOf]; omega
          · go_wp2
            go_ret
            exact ⟨rfl, below_drewN (unhide HB) m⟩

theorem holds_any (a : Option Addr) (len cap : Nat) (extra : Int) (ns : List ByteArray) (w : World) (h : ReadsS w a len cap ns) :
    Calls Try.prog 5 #[.slice a len cap, .int .i64 extra] w fun e w' => e = .returned (.bool true) ∧ Below w.heap.size w w' := by
  rcases h with ⟨hl, ⟨rfl, rfl, rfl⟩ | ⟨x, rfl, hc⟩⟩
  · exact holds_nil extra w
  · by_cases hp : 0 < len
    · obtain ⟨b, o, rfl, hb, hc'⟩ := readsS_at hc hp
      exact holds_some b o len cap extra ns w hl hp hb hc'
    · obtain rfl : len = 0 := by omega
      exact holds_empty x cap extra w
end Go.Proofs.Qxb6000496a
