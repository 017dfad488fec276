import Derived.Test.Qxb6000496aNames
namespace Go.Proofs.Qxb6000496a
open Go.ChangeShapes Go.WideShapes Go.ChangeAt Go.RowKit

/-- What the loop over the names keeps. -/
def Going (w wr : World) (g b n k : Nat) (ns : List ByteArray) : Prop :=
  ∃ tb, Tab.After H0 ns n k tb ∧ Table wr g tb ∧ OwnS wr b ns ∧ Below w.heap.size w wr

theorem going_start {w w1 w2 : World} {g b n : Nat} {ns : List ByteArray} (ho : OwnS w1 b ns) (hb1 : Below w.heap.size w w1) (ht : Table w2 g (List.replicate n none)) (hb2 : Below w1.heap.size w1 w2) : Going w w2 g b n 0 ns := by
  refine ⟨_, Tab.after_zero H0 ns n, ht, (hb2.block b (blk_lt ho)).trans ho, hb1.trans (hb2.mono hb1.size)⟩

theorem going_drewN {w wr : World} {g b n k : Nat} {ns : List ByteArray} (h : Going w wr g b n k ns) (m : Nat) : Going w (wr.drewN m) g b n k ns := by
  obtain ⟨tb, h1, h2, h3, h4⟩ := h
  exact ⟨tb, h1, h2, h3, below_drewN h4 m⟩

/-- One name more. -/
theorem going_step {w wr : World} {g b n c k : Nat} {ns : List ByteArray} (h : Going w wr g b n k ns) (hk : k < ns.length) (hn : ∃ k : Nat, k ≤ 20 ∧ n = 16 * 2 ^ k) (hfit : ns.length < n) (hg : w.heap.size ≤ g) (hgb : b ≠ g) (hs : (ns.getD k ⟨#[]⟩).size ≤ 1048576) :
    Calls Try.prog 11 #[.slice (some ⟨g, 0, none⟩) n c, .string (ns.getD k ⟨#[]⟩)] wr fun e w' => e = .returned (.bool (!(Tab.isIn (ns.take k) (ns.getD k ⟨#[]⟩)))) ∧ Going w w' g b n (k + 1) ns := by
  obtain ⟨tb, h1, h2, h3, h4⟩ := h
  have hu : Tab.used tb < tb.length := by rw [h1.cnt, h1.len]; have := Tab.firsts_le ns k; omega
  refine (zzadd_any g n c tb (ns.getD k ⟨#[]⟩) wr h2 h1.len hn hu hs).mono ?_
  rintro e w' ⟨r, tb', rfl, ha, ht, hb, hsz, hoth⟩
  obtain ⟨h5, h6⟩ := Tab.after_succ h1 hk ha
  refine ⟨by rw [h6], tb', h5, ht, (hoth b hgb).trans h3, h4.trans ⟨hb.os, hb.tape, hb.output, hb.size, fun q hq => hoth q (by omega)⟩⟩

set_option maxHeartbeats 1600000 in
theorem sight_some (b o len cap : Nat) (ns : List ByteArray) (w : World) (hl : ns.length = len) (hp : 0 < len) (hb : b < w.heap.size) (hc : ∀ i, i < len → w.cell? ⟨b, o + i, none⟩ = some (.string (ns.getD i ⟨#[]⟩))) :
    Calls Try.prog 4 #[.slice (some ⟨b, o, none⟩) len cap] w fun e w' => e = .returned (.bool true) ∧ Below w.heap.size w w' := by
  have HB := hide (bytes9_any (some ⟨b, o, none⟩) len cap ns w ⟨hl, .inr ⟨_, rfl, fun i hi => by rw [addr_add]; exact hc i hi⟩⟩)
  have HL := hide hl
  have HC := hide hc
  clear hl hc
  go_enter Try.func4, Try.ntmps4
  go_wp2_with fail
  refine (unhide HB).mono ?_
  rintro e w1 ⟨r, rfl, hr, rfl⟩
  have HR := hide hr
  clear hr HB
  cases r with
  | false =>
    go_wp2
    go_ret
    exact ⟨rfl, Below.refl _ _⟩
  | true =>
    obtain ⟨hlen, hsz⟩ := unhide HR rfl
    have HZ := hide hsz
    clear HR hsz
    by_cases h4096 : 4096 < len
    · go_wp2
      go_ret
      exact ⟨rfl, Below.refl _ _⟩
    have hmk := run_mks len w1 (by omega)
    go_wp2
    go_loop [3, 4] (fun z t => ∃ k : Nat, k ≤ len ∧ t = .int .i64 k ∧ ∃ q : Int, 0 ≤ q ∧ q ≤ 1048576 ∧ z = .int .i64 q) (fun _ t => len - (intOf t).toNat)
    case atStart => exact ⟨0, Nat.zero_le _, rfl, 0, by omega, by omega, rfl⟩
    case round =>
      obtain ⟨k, hk, rfl, q, q0, q1, rfl⟩ := hrel
      by_cases hlt : k < len
      · have ck := unhide HC k hlt
        have sk := unhide HZ k hlt
        generalize ns.getD k ⟨#[]⟩ = s at *
        by_cases h2 : q + (16 + s.size) ≤ 1048576
        · go_wp2
          go_round
          case rel => exact ⟨k + 1, by omega, by go_num, _, by omega, h2, rfl⟩
          case measure => simp [intOf]; omega
        · go_wp2
          go_ret
          exact ⟨rfl, Below.refl _ _⟩
      · have hge : len ≤ k := by omega
        clear hk hlt
        go_wp2
        clear hge
        go_loopw [6] (fun t wr => ∃ k : Nat, k ≤ len ∧ t = .int .i64 k ∧ FilledS wr w1.heap.size len k ns ∧ Below w1.heap.size w1 wr) (fun t _ => len - (intOf t).toNat)
        case atStart => exact ⟨0, Nat.zero_le _, rfl, filledS_start, (Below.refl _ _).alloc (Nat.le_refl _) _⟩
        case round =>
          obtain ⟨k, hk, rfl, hf, hbel⟩ := hrel
          by_cases hlt : k < len
          · have hcx : wr.cell? ⟨b, o + k, none⟩ = some (.string (ns.getD k ⟨#[]⟩)) := (hbel.cell (by exact hb)).trans (unhide HC k hlt)
            obtain ⟨⟨v0, hv0⟩, hfr⟩ := filledS_cell hf k hlt
            have H1 := hide (filledS_set hf hlt)
            have H2 := hide (hbel.setCell (p := ⟨w1.heap.size, k, none⟩) (Nat.le_refl _) (.string (ns.getD k ⟨#[]⟩)))
            clear hf hbel
            generalize ns.getD k ⟨#[]⟩ = s at *
            go_wp2
            go_roundw
            case rel => exact ⟨k + 1, by omega, by go_num, unhide H1, unhide H2⟩
            case measure => simp [intOf]; omega
          · have hke : k = len := by omega
            have HO := hide (show OwnS wr w1.heap.size ns from filledS_end (by have := unhide HL; rw [this]; rw [hke] at hf; exact hf))
            have HW := hide hbel
            have hge : len ≤ k := by omega
            clear hf hbel hke hlt hk hmk
            go_wp2_with fail
            refine (zznew_any 0 len wr (by omega) (by omega) (by omega)).mono ?_
            rintro e w2 ⟨n, g, c', hsd, rfl, ht, hg, hb2⟩
            have HG := hide (going_start (unhide HO) (unhide HW) ht hb2)
            have hgb := hide (show w1.heap.size ≠ g by have := blk_lt (unhide HO); omega)
            have hgw := hide (show w1.heap.size ≤ g by have := (unhide HW).size; omega)
            have HS := hide hsd
            have hfit : 2 * len ≤ n := by have := hsd.fits; omega
            clear hsd ht hg hb2 HO HW hb
            go_wp2
            go_loopw [8, 9] (fun t _ wr => ∃ k : Nat, k ≤ len ∧ t = .int .i64 k ∧ Going w1 wr g w1.heap.size n k ns) (fun t _ _ => len - (intOf t).toNat)
            case atStart => exact ⟨0, Nat.zero_le _, rfl, unhide HG⟩
            case round =>
              obtain ⟨k, hk, rfl, hgo⟩ := hrel
              by_cases hlt : k < len
              · have hl2 := unhide HL
                have HSt := hide (fun m => going_step (c := c') (going_drewN hgo m) (by omega) (unhide HS).pow (by omega) (unhide hgw) (unhide hgb) (unhide HZ k hlt))
                have HO : Hid (OwnS wr w1.heap.size ns) := by obtain ⟨tb, _, _, ho, _⟩ := hgo; exact ho
                have ck : wr.cell? ⟨w1.heap.size, k, none⟩ = some (.string (ns.getD k ⟨#[]⟩)) := ownS_cell (unhide HO) (by omega)
                have HSe := hide (seen_any w1.heap.size len len k ns wr (unhide HO) (unhide HL) (by omega) hlt)
                clear hgo hl2
                generalize Tab.isIn (ns.take k) (ns.getD k ⟨#[]⟩) = r at *
                generalize ns.getD k ⟨#[]⟩ = s at *
                go_wp2_with fail
                refine (unhide HSe).mono ?_
                rintro e w3 ⟨rfl, m, rfl⟩
                go_wp2_with fail
                refine (unhide HSt m).mono ?_
                rintro e w4 ⟨rfl, hgo⟩
                cases r
                all_goals
                  go_wp2
                  go_roundw
                  case rel => exact ⟨k + 1, by omega, by go_num, hgo⟩
                  case measure => simp [intOf]; omega
              · obtain ⟨tb, _, _, _, hbel⟩ := hgo
                go_wp2
                go_ret
                exact ⟨rfl, hbel⟩

set_option maxHeartbeats 1600000 in
theorem sight_nil (w : World) : Calls Try.prog 4 #[.slice none 0 0] w fun e w' => e = .returned (.bool true) ∧ Below w.heap.size w w' := by
  have HB := hide (bytes9_zero none 0 [] w)
  go_enter Try.func4, Try.ntmps4
  go_wp2_with fail
  refine (unhide HB).mono ?_
  rintro e w1 ⟨r, rfl, hr, rfl⟩
  clear hr HB
  cases r with
  | false =>
    go_wp2
    go_ret
    exact ⟨rfl, Below.refl _ _⟩
  | true =>
    go_wp2
    refine wp_loop_rounds 1 ?_
    rw [rounds_succ]
    go_wp2_with fail
    refine (zznew_any 0 0 w1 (by omega) (by omega) (by omega)).mono ?_
    rintro e w2 ⟨n, g, c', hsd, rfl, ht, hg, hb2⟩
    clear hsd ht
    go_wp2
    refine wp_loop_rounds 1 ?_
    rw [rounds_succ]
    go_wp2
    go_ret
    exact ⟨rfl, hb2⟩

set_option maxHeartbeats 1600000 in
theorem sight_empty (x : Addr) (cap : Nat) (w : World) : Calls Try.prog 4 #[.slice (some x) 0 cap] w fun e w' => e = .returned (.bool true) ∧ Below w.heap.size w w' := by
  have HB := hide (bytes9_zero (some x) cap [] w)
  go_enter Try.func4, Try.ntmps4
  go_wp2_with fail
  refine (unhide HB).mono ?_
  rintro e w1 ⟨r, rfl, hr, rfl⟩
  clear hr HB
  cases r with
  | false =>
    go_wp2
    go_ret
    exact ⟨rfl, Below.refl _ _⟩
  | true =>
    have hmk := run_mks 0 w1 (by omega)
    rw [show ((0 : Nat) : Int) = 0 from rfl] at hmk
    go_wp2
    refine wp_loop_rounds 1 ?_
    rw [rounds_succ]
    go_wp2
    refine wp_loop_rounds 1 ?_
    rw [rounds_succ]
    go_wp2_with fail
    refine (zznew_any 0 0 _ (by omega) (by omega) (by omega)).mono ?_
    rintro e w2 ⟨n, g, c', hsd, rfl, ht, hg, hb2⟩
    have hb3 := hide (((Below.refl w1.heap.size w1).alloc (Nat.le_refl _) (.cells (srow 0) 9 (0, 0))).trans (hb2.mono (by simp)))
    clear hsd ht hg hb2
    go_wp2
    refine wp_loop_rounds 1 ?_
    rw [rounds_succ]
    go_wp2
    go_ret
    exact ⟨rfl, unhide hb3⟩

theorem sight_any (a : Option Addr) (len cap : Nat) (ns : List ByteArray) (w : World) (h : ReadsS w a len cap ns) :
    Calls Try.prog 4 #[.slice a len cap] w fun e w' => e = .returned (.bool true) ∧ Below w.heap.size w w' := by
  rcases h with ⟨hl, ⟨rfl, rfl, rfl⟩ | ⟨x, rfl, hc⟩⟩
  · exact sight_nil w
  · by_cases hp : 0 < len
    · obtain ⟨b, o, rfl, hb, hc'⟩ := readsS_at hc hp
      exact sight_some b o len cap ns w hl hp hb hc'
    · obtain rfl : len = 0 := by omega
      exact sight_empty x cap w
end Go.Proofs.Qxb6000496a
