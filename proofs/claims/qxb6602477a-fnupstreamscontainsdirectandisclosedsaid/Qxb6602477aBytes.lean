import Derived.Test.Qxb6602477aMem
namespace Go.Proofs.Qxb6602477a
open Go.ChangeShapes Go.WideShapes Go.ChangeAt Go.RowKit

/-! ### capAdd, lgemBytes, gemsBytes: what they count does not matter: they return -/
def SomeInt (B : Nat) (w : World) (e : Ending) (w' : World) : Prop := ∃ q : Int, e = .returned (.int .i64 q) ∧ Below B w w'

theorem capAdd_any (t n : Int) (w : World) : Calls Try.prog 24 #[.int .i64 t, .int .i64 n] w fun e w' => (∃ q : Int, e = .returned (.int .i64 q)) ∧ w' = w := by
  by_cases h1 : 1048576 < t
  · go_enter Try.func24, Try.ntmps24
    go_wp2
    go_ret
    exact ⟨⟨_, rfl⟩, rfl⟩
  by_cases h2 : n < 0
  · go_enter Try.func24, Try.ntmps24
    go_wp2
    go_ret
    exact ⟨⟨_, rfl⟩, rfl⟩
  by_cases h3 : 1048576 < n
  · go_enter Try.func24, Try.ntmps24
    go_wp2
    go_ret
    exact ⟨⟨_, rfl⟩, rfl⟩
  go_enter Try.func24, Try.ntmps24
  go_wp2
  go_ret
  exact ⟨⟨_, rfl⟩, rfl⟩

set_option maxHeartbeats 800000 in
theorem lgemBytes_any (t : Int) (k : Kept) (w : World) (hk : k.ok w) (hl : k.gem.req.length ≤ 1048576) :
    Calls Try.prog 20 #[.int .i64 t, k.val] w fun e w' => SomeInt w.heap.size w e w' := by
  obtain ⟨⟨n, v, s, req, l⟩, a, cap⟩ := k
  unfold Kept.val
  unfold Kept.ok at hk
  dsimp only at hk hl ⊢
  have HK := hide hk
  generalize hlen : req.length = len at *
  clear hk hlen
  go_enter Try.func20, Try.ntmps20
  go_wp2_with (go_at_call 24; refine (capAdd_any _ _ _).mono ?_; rintro e w' ⟨⟨q, rfl⟩, rfl⟩)
  go_loop [0, 5] (fun z t => ∃ k : Nat, k ≤ len ∧ t = .int .i64 k ∧ ∃ q : Int, z = .int .i64 q) (fun _ t => len - (intOf t).toNat)
  case atStart => exact ⟨0, Nat.zero_le _, rfl, _, rfl⟩
  case round =>
    obtain ⟨k, hk, rfl, q, rfl⟩ := hrel
    by_cases hlt : k < len
    · obtain ⟨b, o, rfl, hc⟩ := (unhide HK).2 (by omega)
      have ck := cell_stays ((Below.refl w.heap.size w).alloc (Nat.le_refl _) (.cells #[.string n, .string v, .string s, .slice (some ⟨b, o, none⟩) len cap, .int .i64 l] 25)) (hc k hlt)
      clear hc
      generalize nm req k = x at *
      by_cases hq : q ≤ 1048576
      · go_wp2_with (go_at_call 24; refine (capAdd_any _ _ _).mono ?_; rintro e w' ⟨⟨q, rfl⟩, rfl⟩)
        go_round
        case rel => exact ⟨k + 1, by omega, by go_num, _, rfl⟩
        case measure => simp [intOf]; omega
      · go_wp2
        go_ret
        exact ⟨_, rfl, (Below.refl _ _).alloc (Nat.le_refl _) _⟩
    · go_wp2
      go_ret
      exact ⟨_, rfl, (Below.refl _ _).alloc (Nat.le_refl _) _⟩

set_option maxHeartbeats 800000 in
theorem gemsBytes_any (a : Option Addr) (len cap : Nat) (ks : List Kept) (g : Kept) (w : World) (hg : Gems w a len ks) (hk : g.ok w) (hlen : len ≤ 1048576) (hl : g.gem.req.length ≤ 1048576) (hls : ∀ i, i < len → (gk ks i).gem.req.length ≤ 1048576) :
    Calls Try.prog 6 #[.slice a len cap, g.val] w fun e w' => SomeInt w.heap.size w e w' := by
  have HG := hide hg
  have HB := hide (fun t w' (hb : Below w.heap.size w w') => lgemBytes_any t g w' (ok_stays hb hk) hl)
  have HS := hide (fun t i w' (hi : i < len) (hb : Below w.heap.size w w') => lgemBytes_any t (gk ks i) w' (ok_stays hb (hg.2.2 _ (gk_mem (by rw [hg.1]; exact hi)))) (hls i hi))
  clear hg hk hls hl
  obtain ⟨⟨n, v, s, req, l⟩, ga, gcap⟩ := g
  unfold Kept.val at HB ⊢
  dsimp only at HB ⊢
  generalize hrl : req.length = rlen at *
  clear hrl
  go_enter Try.func6, Try.ntmps6
  go_wp2_with fail
  refine (unhide HB _ _ ((Below.refl w.heap.size w).alloc (Nat.le_refl _) _)).mono ?_
  rintro e w1 ⟨q, rfl, hb1⟩
  have hb2 := ((Below.refl w.heap.size w).alloc (Nat.le_refl _) (.cells #[.string n, .string v, .string s, .slice ga rlen gcap, .int .i64 l] 25)).trans (hb1.mono (by simp))
  have HB2 := hide hb2
  clear hb1 hb2 HB
  go_wp2
  go_loopw [5, 6] (fun z t wr => ∃ k : Nat, k ≤ len ∧ t = .int .i64 k ∧ (∃ q : Int, z = .int .i64 q) ∧ Below w.heap.size w wr) (fun _ t _ => len - (intOf t).toNat)
  case atStart => exact ⟨0, Nat.zero_le _, rfl, ⟨_, rfl⟩, unhide HB2⟩
  case round =>
    obtain ⟨k, hk, rfl, ⟨q, rfl⟩, hbel⟩ := hrel
    by_cases hlt : k < len
    · obtain ⟨b, o, rfl, hc⟩ := (unhide HG).2.1 (by omega)
      have ck := gemAt_stays hbel (hc k hlt)
      have HSk := hide (fun t => unhide HS t k wr hlt hbel)
      have HBel := hide hbel
      clear hc hbel
      obtain ⟨c0, c1, c2, c3, c4⟩ := ck
      unfold Kept.val at HSk
      generalize gk ks k = x at *
      obtain ⟨⟨xn, xv, xs, xreq, xl⟩, xa, xcap⟩ := x
      dsimp only at c0 c1 c2 c3 c4 HSk
      generalize xreq.length = xlen at *
      by_cases hq : q ≤ 1048576
      · go_wp2_with fail
        refine (unhide HSk _).mono ?_
        rintro e w2 ⟨q2, rfl, hb2⟩
        have HB3 := hide ((unhide HBel).trans (hb2.mono (unhide HBel).size))
        clear hb2
        go_wp2
        go_roundw
        case rel => exact ⟨k + 1, by omega, by go_num, ⟨_, rfl⟩, unhide HB3⟩
        case measure => simp [intOf]; omega
      · go_wp2
        go_ret
        exact ⟨_, rfl, unhide HBel⟩
    · go_wp2
      go_ret
      exact ⟨_, rfl, hbel⟩

/-! ### zzBytes -/
def BytesEnd (len : Nat) (ks : List Kept) (glen : Nat) (w : World) (e : Ending) (w' : World) : Prop :=
  ∃ r, e = .returned (.bool r) ∧ (r = true → len ≤ 1048576 ∧ sumTo ks len + glen ≤ 1048576) ∧ Below w.heap.size w w'

set_option maxRecDepth 100000 in
set_option maxHeartbeats 4000000 in
theorem bytes5_any (a : Option Addr) (len cap : Nat) (ks : List Kept) (g : Kept) (w : World) (hg : Gems w a len ks) (hk : g.ok w) :
    Calls Try.prog 5 #[.slice a len cap, g.val] w fun e w' => BytesEnd len ks g.gem.req.length w e w' := by
  obtain ⟨⟨gn, gv, gs, greq, gl⟩, ga, gcap⟩ := g
  unfold Kept.val
  unfold Kept.ok at hk
  dsimp only at hk ⊢
  have HK := hide hk
  generalize hrl : greq.length = glen at *
  clear hrl hk
  have HG := hide hg
  have hkl := hg.1
  clear hg
  by_cases hlen : len ≤ 1048576
  · have hb1 := (Below.refl w.heap.size w).alloc (Nat.le_refl _) (.cells #[.string gn, .string gv, .string gs, .slice ga glen gcap, .int .i64 gl] 25)
    have HB := hide hb1
    have HKL := hide hkl
    clear hb1 hkl
    go_enter Try.func5, Try.ntmps5
    go_wp2
    go_loop [5, 6] (fun z t => ∃ k : Nat, k ≤ len ∧ t = .int .i64 k ∧ ∃ q : Int, (sumTo ks k : Int) ≤ q ∧ q ≤ 1048576 ∧ z = .int .i64 q) (fun _ t => len - (intOf t).toNat)
    case atStart => exact ⟨0, Nat.zero_le _, rfl, len, by rw [sumTo_zero]; omega, by omega, rfl⟩
    case round =>
      obtain ⟨k, hk, rfl, q, hq0, hq1, rfl⟩ := hrel
      by_cases hlt : k < len
      · obtain ⟨b, o, rfl, hc⟩ := (unhide HG).2.1 (by omega)
        obtain ⟨c0, c1, c2, c3, c4⟩ := gemAt_stays (unhide HB) (hc k hlt)
        have hss := sumTo_succ (ks := ks) (k := k) (by have := unhide HKL; omega)
        have HR := hide (ok_stays (unhide HB) ((unhide HG).2.2 _ (gk_mem (ks := ks) (i := k) (by have := unhide HKL; omega))))
        unfold Kept.ok at HR
        clear hc c4
        have d2 : (w.alloc (.cells #[.string gn, .string gv, .string gs, .slice ga glen gcap, .int .i64 gl] 25)).cell? ⟨b, o + k * 5 + 2, none⟩ = some (.string (gk ks k).gem.gemspec) := c2
        have d3 : (w.alloc (.cells #[.string gn, .string gv, .string gs, .slice ga glen gcap, .int .i64 gl] 25)).cell? ⟨b, o + k * 5 + 3, none⟩ = some (.slice (gk ks k).at? (gk ks k).gem.req.length (gk ks k).cap) := c3
        clear c2 c3
        generalize gk ks k = x at *
        obtain ⟨⟨xn, xv, xs, xreq, xl⟩, xa, xcap⟩ := x
        dsimp only at c0 c1 d2 d3 HR hss
        generalize xreq.length = xlen at *
        have HSS := hide hss
        have hs0 : (0 : Int) ≤ (sumTo ks k : Int) := by omega
        clear hss
        generalize (sumTo ks k) = sk at *
        go_wp2
        all_goals first | (go_ret; exact ⟨false, rfl, (fun h => by cases h), unhide HB⟩) | skip
        go_loop [5, 7] (fun z t => ∃ i : Nat, i ≤ xlen ∧ t = .int .i64 i ∧ ∃ q : Int, (sk : Int) + (xlen : Int) ≤ q ∧ q ≤ 1048576 ∧ z = .int .i64 q) (fun _ t => xlen - (intOf t).toNat)
        case atStart => exact ⟨0, Nat.zero_le _, rfl, _, by omega, by omega, rfl⟩
        case round =>
          obtain ⟨i, hi, rfl, q2, hq20, hq21, rfl⟩ := hrel
          by_cases hil : i < xlen
          · obtain ⟨rb, ro, rfl, hrc⟩ := (unhide HR).2 (by omega)
            have ci := hrc i hil
            clear hrc
            generalize nm xreq i = y at *
            go_wp2
            all_goals first | (go_ret; exact ⟨false, rfl, (fun h => by cases h), unhide HB⟩) | skip
            go_round
            case rel => exact ⟨i + 1, by omega, by go_num, _, by omega, by omega, rfl⟩
            case measure => simp [intOf]; omega
          · go_wp2
            go_round
            case rel => exact ⟨k + 1, by omega, by go_num, q2, by have := unhide HSS; omega, by omega, rfl⟩
            case measure => simp [intOf]; omega
      · have hke : k = len := by omega
        subst hke
        have HQ := hide hq0
        have hq00 : 0 ≤ q := by omega
        clear hq0
        go_wp2
        all_goals first | (go_ret; exact ⟨false, rfl, (fun h => by cases h), unhide HB⟩) | skip
        go_loop [5, 8] (fun z t => ∃ i : Nat, i ≤ glen ∧ t = .int .i64 i ∧ ∃ q2 : Int, q + (glen : Int) ≤ q2 ∧ q2 ≤ 1048576 ∧ z = .int .i64 q2) (fun _ t => glen - (intOf t).toNat)
        case atStart => exact ⟨0, Nat.zero_le _, rfl, _, by omega, by omega, rfl⟩
        case round =>
          obtain ⟨i, hi, rfl, q2, hq20, hq21, rfl⟩ := hrel
          by_cases hil : i < glen
          · obtain ⟨rb, ro, rfl, hrc⟩ := (unhide HK).2 (by omega)
            have ci := cell_stays (unhide HB) (hrc i hil)
            clear hrc
            generalize nm greq i = y at *
            go_wp2
            all_goals first | (go_ret; exact ⟨false, rfl, (fun h => by cases h), unhide HB⟩) | skip
            go_round
            case rel => exact ⟨i + 1, by omega, by go_num, _, by omega, by omega, rfl⟩
            case measure => simp [intOf]; omega
          · go_wp2
            go_ret
            exact ⟨true, rfl, (fun _ => ⟨hlen, by have := unhide HQ; omega⟩), unhide HB⟩
  · go_enter Try.func5, Try.ntmps5
    go_wp2
    go_ret
    exact ⟨false, rfl, (fun h => by cases h), (Below.refl _ _).alloc (Nat.le_refl _) _⟩
end Go.Proofs.Qxb6602477a
