import Derived.Test.Qxb6602477aBytes
namespace Go.Proofs.Qxb6602477a
open Go.ChangeShapes Go.WideShapes Go.ChangeAt Go.RowKit
set_option maxRecDepth 100000 in
set_option maxHeartbeats 4000000 in
theorem bytes14_any (a : Option Addr) (len cap : Nat) (ks : List Kept) (g : Kept) (w : World) (hg : Gems w a len ks) (hk : g.ok w) :
    Calls Try.prog 14 #[.slice a len cap, g.val] w fun e w' => BytesEnd len ks g.gem.req.length w e w' := by
  obtain ⟨⟨gn, gv, gs, greq, gl⟩, ga, gcap⟩ := g
  unfold Kept.val
  unfold Kept.ok at hk
  dsimp only at hk ⊢
  have HK := hide hk
  generalize hrl : greq.length = glen at *
  clear hrl hk
  have HG := hide hg
  have hkl := hg.1
  clear hg
  by_cases hlen : len ≤ 1048576
  · have hb1 := (Below.refl w.heap.size w).alloc (Nat.le_refl _) (.cells #[.string gn, .string gv, .string gs, .slice ga glen gcap, .int .i64 gl] 25)
    have HB := hide hb1
    have HKL := hide hkl
    clear hb1 hkl
    go_enter Try.func14, Try.ntmps14
    go_wp2
    go_loop [5, 6] (fun z t => ∃ k : Nat, k ≤ len ∧ t = .int .i64 k ∧ ∃ q : Int, (sumTo ks k : Int) ≤ q ∧ q ≤ 1048576 ∧ z = .int .i64 q) (fun _ t => len - (intOf t).toNat)
    case atStart => exact ⟨0, Nat.zero_le _, rfl, len, by rw [sumTo_zero]; omega, by omega, rfl⟩
    case round =>
      obtain ⟨k, hk, rfl, q, hq0, hq1, rfl⟩ := hrel
      by_cases hlt : k < len
      · obtain ⟨b, o, rfl, hc⟩ := (unhide HG).2.1 (by omega)
        obtain ⟨c0, c1, c2, c3, c4⟩ := gemAt_stays (unhide HB) (hc k hlt)
        have hss := sumTo_succ (ks := ks) (k := k) (by have := unhide HKL; omega)
        have HR := hide (ok_stays (unhide HB) ((unhide HG).2.2 _ (gk_mem (ks := ks) (i := k) (by have := unhide HKL; omega))))
        unfold Kept.ok at HR
        clear hc c4
        have d2 : (w.alloc (.cells #[.string gn, .string gv, .string gs, .slice ga glen gcap, .int .i64 gl] 25)).cell? ⟨b, o + k * 5 + 2, none⟩ = some (.string (gk ks k).gem.gemspec) := c2
        have d3 : (w.alloc (.cells #[.string gn, .string gv, .string gs, .slice ga glen gcap, .int .i64 gl] 25)).cell? ⟨b, o + k * 5 + 3, none⟩ = some (.slice (gk ks k).at? (gk ks k).gem.req.length (gk ks k).cap) := c3
        clear c2 c3
        generalize gk ks k = x at *
        obtain ⟨⟨xn, xv, xs, xreq, xl⟩, xa, xcap⟩ := x
        dsimp only at c0 c1 d2 d3 HR hss
        generalize xreq.length = xlen at *
        have HSS := hide hss
        have hs0 : (0 : Int) ≤ (sumTo ks k : Int) := by omega
        clear hss
        generalize (sumTo ks k) = sk at *
        go_wp2
        all_goals first | (go_ret; exact ⟨false, rfl, (fun h => by cases h), unhide HB⟩) | skip
        go_loop [5, 7] (fun z t => ∃ i : Nat, i ≤ xlen ∧ t = .int .i64 i ∧ ∃ q : Int, (sk : Int) + (xlen : Int) ≤ q ∧ q ≤ 1048576 ∧ z = .int .i64 q) (fun _ t => xlen - (intOf t).toNat)
        case atStart => exact ⟨0, Nat.zero_le _, rfl, _, by omega, by omega, rfl⟩
        case round =>
          obtain ⟨i, hi, rfl, q2, hq20, hq21, rfl⟩ := hrel
          by_cases hil : i < xlen
          · obtain ⟨rb, ro, rfl, hrc⟩ := (unhide HR).2 (by omega)
            have ci := hrc i hil
            clear hrc
            generalize nm xreq i = y at *
            go_wp2
            all_goals first | (go_ret; exact ⟨false, rfl, (fun h => by cases h), unhide HB⟩) | skip
            go_round
            case rel => exact ⟨i + 1, by omega, by go_num, _, by omega, by omega, rfl⟩
            case measure => simp [intOf]; omega
          · go_wp2
            go_round
            case rel => exact ⟨k + 1, by omega, by go_num, q2, by have := unhide HSS; omega, by omega, rfl⟩
            case measure => simp [intOf]; omega
      · have hke : k = len := by omega
        subst hke
        have HQ := hide hq0
        have hq00 : 0 ≤ q := by omega
        clear hq0
        go_wp2
        all_goals first | (go_ret; exact ⟨false, rfl, (fun h => by cases h), unhide HB⟩) | skip
        go_loop [5, 8] (fun z t => ∃ i : Nat, i ≤ glen ∧ t = .int .i64 i ∧ ∃ q2 : Int, q + (glen : Int) ≤ q2 ∧ q2 ≤ 1048576 ∧ z = .int .i64 q2) (fun _ t => glen - (intOf t).toNat)
        case atStart => exact ⟨0, Nat.zero_le _, rfl, _, by omega, by omega, rfl⟩
        case round =>
          obtain ⟨i, hi, rfl, q2, hq20, hq21, rfl⟩ := hrel
          by_cases hil : i < glen
          · obtain ⟨rb, ro, rfl, hrc⟩ := (unhide HK).2 (by omega)
            have ci := cell_stays (unhide HB) (hrc i hil)
            clear hrc
            generalize nm greq i = y at *
            go_wp2
            all_goals first | (go_ret; exact ⟨false, rfl, (fun h => by cases h), unhide HB⟩) | skip
            go_round
            case rel => exact ⟨i + 1, by omega, by go_num, _, by omega, by omega, rfl⟩
            case measure => simp [intOf]; omega
          · go_wp2
            go_ret
            exact ⟨true, rfl, (fun _ => ⟨hlen, by have := unhide HQ; omega⟩), unhide HB⟩
  · go_enter Try.func14, Try.ntmps14
    go_wp2
    go_ret
    exact ⟨false, rfl, (fun h => by cases h), (Below.refl _ _).alloc (Nat.le_refl _) _⟩
end Go.Proofs.Qxb6602477a
