import Derived.Test.Qxb6000496aSight
namespace Go.Proofs.Qxb6000496a
open Go.ChangeShapes Go.WideShapes Go.ChangeAt Go.RowKit

def usedTo (tb : Tab.Tb) (k : Nat) : Nat := Tab.used (tb.take k)
theorem usedTo_zero (tb : Tab.Tb) : usedTo tb 0 = 0 := by simp [usedTo, Tab.used]
theorem usedTo_succ {tb : Tab.Tb} {k : Nat} {o : Option ByteArray} (h : tb[k]? = some o) : usedTo tb (k + 1) = usedTo tb k + if o.isSome then 1 else 0 := by
  obtain ⟨hk, e⟩ := List.getElem?_eq_some_iff.1 h
  unfold usedTo Tab.used
  rw [List.take_succ_eq_append_getElem hk, List.countP_append, e]
  cases o <;> rfl
theorem usedTo_le (tb : Tab.Tb) (k : Nat) : usedTo tb k ≤ k := by
  unfold usedTo Tab.used
  have := List.countP_le_length (p := Option.isSome) (l := tb.take k)
  have : (tb.take k).length ≤ k := List.length_take_le _ _
  omega
theorem usedTo_all {tb : Tab.Tb} {n : Nat} (h : tb.length = n) : usedTo tb n = Tab.used tb := by
  unfold usedTo; rw [← h, List.take_length]

theorem after_in {H : ByteArray → Nat} {ns : List ByteArray} {n i : Nat} {tb : Tab.Tb} {s : ByteArray} (h : Tab.After H ns n ns.length tb) (hi : tb[i]? = some (some s)) : Tab.isIn ns s = true := by
  rw [Tab.isIn_iff]
  have := h.inv.only i s hi
  unfold Tab.among at this
  rwa [List.take_length] at this

theorem firsts_succ (ns : List ByteArray) (k : Nat) : Tab.firsts ns (k + 1) = Tab.firsts ns k + if Tab.isIn (ns.take k) (ns.getD k ⟨#[]⟩) then 0 else 1 := rfl

/-- The names are in; nothing more goes in. -/
def Full (w wr : World) (g b n : Nat) (ns : List ByteArray) (tb : Tab.Tb) : Prop :=
  Tab.After H0 ns n ns.length tb ∧ Table wr g tb ∧ OwnS wr b ns ∧ Below w.heap.size w wr
theorem full_drewN {w wr : World} {g b n : Nat} {ns : List ByteArray} {tb : Tab.Tb} (h : Full w wr g b n ns tb) (m : Nat) : Full w (wr.drewN m) g b n ns tb :=
  ⟨h.1, h.2.1, h.2.2.1, below_drewN h.2.2.2 m⟩

theorem full_again {w wr : World} {g b n c k : Nat} {ns : List ByteArray} {tb : Tab.Tb} (h : Full w wr g b n ns tb) (hk : k < ns.length) (hn : ∃ k : Nat, k ≤ 20 ∧ n = 16 * 2 ^ k) (hfit : ns.length < n) (hg : w.heap.size ≤ g) (hgb : b ≠ g) (hs : (ns.getD k ⟨#[]⟩).size ≤ 1048576) :
    Calls Try.prog 11 #[.slice (some ⟨g, 0, none⟩) n c, .string (ns.getD k ⟨#[]⟩)] wr fun e w' => e = .returned (.bool false) ∧ Full w w' g b n ns tb := by
  obtain ⟨h1, h2, h3, h4⟩ := h
  have hu : Tab.used tb < tb.length := by rw [h1.cnt, h1.len]; have := Tab.firsts_le ns ns.length; omega
  refine (zzadd_any g n c tb (ns.getD k ⟨#[]⟩) wr h2 h1.len hn hu hs).mono ?_
  rintro e w' ⟨r, tb', rfl, ha, ht, hb, hsz, hoth⟩
  obtain ⟨rfl, rfl⟩ := Tab.after_again h1 (by simp [hk]) ha
  exact ⟨rfl, h1, ht, (hoth b hgb).trans h3, h4.trans ⟨hb.os, hb.tape, hb.output, hb.size, fun q hq => hoth q (by omega)⟩⟩

set_option maxHeartbeats 4000000 in
theorem holds_some (b o len cap : Nat) (extra : Int) (ns : List ByteArray) (w : World) (hl : ns.length = len) (hp : 0 < len) (hb : b < w.heap.size) (hc : ∀ i, i < len → w.cell? ⟨b, o + i, none⟩ = some (.string (ns.getD i ⟨#[]⟩))) :
    Calls Try.prog 5 #[.slice (some ⟨b, o, none⟩) len cap, .int .i64 extra] w fun e w' => e = .returned (.bool true) ∧ Below w.heap.size w w' := by
  have HB := hide (bytes12_any (some ⟨b, o, none⟩) len cap extra ns w ⟨hl, .inr ⟨_, rfl, fun i hi => by rw [addr_add]; exact hc i hi⟩⟩)
  have HL := hide hl
  have HC := hide hc
  clear hl hc
  go_enter Try.func5, Try.ntmps5
  go_wp2_with fail
  refine (unhide HB).mono ?_
  rintro e w1 ⟨r, rfl, hr, rfl⟩
  have HR := hide hr
  clear hr HB
  cases r with
  | false =>
    go_wp2
    go_ret
    exact ⟨rfl, Below.refl _ _⟩
  | true =>
    obtain ⟨hlen, hsz⟩ := unhide HR rfl
    have HZ := hide hsz
    clear HR hsz
    by_cases h4096 : 4096 < len
    · go_wp2
      go_ret
      exact ⟨rfl, Below.refl _ _⟩
    have hmk := run_mks len w1 (by omega)
    go_wp2
    go_loop [5, 6] (fun z t => ∃ k : Nat, k ≤ len ∧ t = .int .i64 k ∧ ∃ q : Int, 0 ≤ q ∧ q ≤ 1048576 ∧ z = .int .i64 q) (fun _ t => len - (intOf t).toNat)
    case atStart => exact ⟨0, Nat.zero_le _, rfl, 0, by omega, by omega, rfl⟩
    case round =>
      obtain ⟨k, hk, rfl, q, q0, q1, rfl⟩ := hrel
      by_cases hlt : k < len
      · have ck := unhide HC k hlt
        have sk := unhide HZ k hlt
        generalize ns.getD k ⟨#[]⟩ = s at *
        by_cases h2 : q + (16 + s.size) ≤ 1048576
        · go_wp2
          go_round
          case rel => exact ⟨k + 1, by omega, by go_num, _, by omega, h2, rfl⟩
          case measure => simp [intOf]; omega
        · go_wp2
          go_ret
          exact ⟨rfl, Below.refl _ _⟩
      · have hge : len ≤ k := by omega
        clear hk hlt
        by_cases hx0 : extra < 0
        · go_wp2
          go_ret
          exact ⟨rfl, Below.refl _ _⟩
        by_cases hx1 : 65536 < extra
        · go_wp2
          go_ret
          exact ⟨rfl, Below.refl _ _⟩
        go_wp2
        clear hge
        go_loopw [8] (fun t wr => ∃ k : Nat, k ≤ len ∧ t = .int .i64 k ∧ FilledS wr w1.heap.size len k ns ∧ Below w1.heap.size w1 wr) (fun t _ => len - (intOf t).toNat)
        case atStart => exact ⟨0, Nat.zero_le _, rfl, filledS_start, (Below.refl _ _).alloc (Nat.le_refl _) _⟩
        case round =>
          obtain ⟨k, hk, rfl, hf, hbel⟩ := hrel
          by_cases hlt : k < len
          · have hcx : wr.cell? ⟨b, o + k, none⟩ = some (.string (ns.getD k ⟨#[]⟩)) := (hbel.cell (by exact hb)).trans (unhide HC k hlt)
            obtain ⟨⟨v0, hv0⟩, hfr⟩ := filledS_cell hf k hlt
            have H1 := hide (filledS_set hf hlt)
            have H2 := hide (hbel.setCell (p := ⟨w1.heap.size, k, none⟩) (Nat.le_refl _) (.string (ns.getD k ⟨#[]⟩)))
            clear hf hbel
            generalize ns.getD k ⟨#[]⟩ = s at *
            go_wp2
            go_roundw
            case rel => exact ⟨k + 1, by omega, by go_num, unhide H1, unhide H2⟩
            case measure => simp [intOf]; omega
          · have hke : k = len := by omega
            have HO := hide (show OwnS wr w1.heap.size ns from filledS_end (by have := unhide HL; rw [this]; rw [hke] at hf; exact hf))
            have HW := hide hbel
            have hge : len ≤ k := by omega
            clear hf hbel hke hlt hk hmk
            go_wp2_with fail
            refine (zznew_any 0 (len + extra) wr (by omega) (by omega) (by omega)).mono ?_
            rintro e w2 ⟨n, g, c', hsd, rfl, ht, hg, hb2⟩
            have HG := hide (going_start (unhide HO) (unhide HW) ht hb2)
            have hgb := hide (show w1.heap.size ≠ g by have := blk_lt (unhide HO); omega)
            have hgw := hide (show w1.heap.size ≤ g by have := (unhide HW).size; omega)
            have HS := hide hsd
            have hfit : 2 * len ≤ n := by have := hsd.fits; omega
            have hnn : n ≤ 1048576 := by have := hsd.least; omega
            clear hsd ht hg hb2 HO HW hb
            go_wp2
            go_loopw [10, 11] (fun z t wr => ∃ k : Nat, k ≤ len ∧ t = .int .i64 k ∧ z = .int .i64 (Tab.firsts ns k) ∧ Going w1 wr g w1.heap.size n k ns) (fun _ t _ => len - (intOf t).toNat)
            case atStart => exact ⟨0, Nat.zero_le _, rfl, rfl, unhide HG⟩
            case round =>
              obtain ⟨k, hk, rfl, rfl, hgo⟩ := hrel
              by_cases hlt : k < len
              · have hl2 := unhide HL
                have HSt := hide (going_step (c := c') hgo (by omega) (unhide HS).pow (by omega) (unhide hgw) (unhide hgb) (unhide HZ k hlt))
                have HO : Hid (OwnS wr w1.heap.size ns) := by obtain ⟨tb, _, _, ho, _⟩ := hgo; exact ho
                have ck : wr.cell? ⟨w1.heap.size, k, none⟩ = some (.string (ns.getD k ⟨#[]⟩)) := ownS_cell (unhide HO) (by omega)
                have HSe := hide (fun w' ho => seen_any w1.heap.size len len k ns w' ho (unhide HL) (by omega) hlt)
                have HF := hide (firsts_succ ns k)
                have hfk := Tab.firsts_le ns k
                clear hgo hl2 HO
                generalize Tab.isIn (ns.take k) (ns.getD k ⟨#[]⟩) = r at *
                generalize ns.getD k ⟨#[]⟩ = s at *
                go_wp2_with fail
                refine (unhide HSt).mono ?_
                rintro e w3 ⟨rfl, hgo⟩
                have HGo := hide hgo
                clear hgo
                go_wp2_with fail
                refine (unhide HSe w3 (by obtain ⟨tb, _, _, ho, _⟩ := unhide HGo; exact ho)).mono ?_
                rintro e w4 ⟨rfl, m, rfl⟩
                cases r with
                | false =>
                  go_wp2
                  go_roundw
                  case rel => exact ⟨k + 1, by omega, by go_num, by rw [unhide HF]; simp, going_drewN (unhide HGo) m⟩
                  case measure => simp [intOf]; omega
                | true =>
                  go_wp2
                  go_roundw
                  case rel => exact ⟨k + 1, by omega, by go_num, by rw [unhide HF]; simp, going_drewN (unhide HGo) m⟩
                  case measure => simp [intOf]; omega
              · have hke : k = len := by omega
                subst hke
                obtain ⟨tb, hfull⟩ : ∃ tb, Full w1 wr g w1.heap.size n ns tb := by
                  obtain ⟨tb, t1, t2, t3, t4⟩ := hgo
                  exact ⟨tb, by have := unhide HL; rw [this]; exact t1, t2, t3, t4⟩
                have HFu := hide hfull
                have hu1 : usedTo tb n = Tab.firsts ns k := by
                  rw [usedTo_all hfull.1.len, hfull.1.cnt, unhide HL]
                have HU := hide hu1
                have HTl := hide hfull.1.len
                clear hgo hfull hu1 HG
                go_wp2_with fail
                refine (zzlen_any (some ⟨g, 0, none⟩) n c' wr).mono ?_
                rintro e w5 ⟨rfl, rfl⟩
                go_wp2
                go_loopw [13, 14] (fun z t wx => ∃ j : Nat, j ≤ n ∧ t = .int .i64 j ∧ z = .int .i64 (usedTo tb j) ∧ ∃ m, wx = w5.drewN m) (fun _ t _ => n - (intOf t).toNat)
                case atStart => exact ⟨0, Nat.zero_le _, rfl, by rw [usedTo_zero]; rfl, 0, rfl⟩
                case round =>
                  obtain ⟨j, hj, rfl, rfl, m, rfl⟩ := hrel
                  by_cases hjn : j < n
                  · obtain ⟨o1, ho1⟩ : ∃ o1, tb[j]? = some o1 := ⟨_, List.getElem?_eq_getElem (by have := unhide HTl; omega)⟩
                    have HO1 := hide ho1
                    have HSl := hide (zzslot_any g n c' j tb o1 (w5.drewN m) (by exact (unhide HFu).2.1) (unhide HTl) (by omega) ho1)
                    have HUs := hide (usedTo_succ ho1)
                    have hub := usedTo_le tb j
                    clear ho1
                    cases o1 with
                    | none =>
                      simp only [Option.getD_none, Option.isSome_none] at HSl HUs
                      go_wp2_with fail
                      refine (unhide HSl).mono ?_
                      rintro e w6 ⟨rfl, m2, rfl⟩
                      go_wp2
                      go_roundw
                      case rel => exact ⟨j + 1, by omega, by go_num, by rw [unhide HUs]; simp, _, rfl⟩
                      case measure => simp [intOf]; omega
                    | some s =>
                      simp only [Option.getD_some, Option.isSome_some] at HSl HUs
                      have HCt := hide (fun w' ho => contains_any w1.heap.size k k s ns w' ho (unhide HL) (by omega))
                      have HIn := after_in (unhide HFu).1 (unhide HO1)
                      rw [HIn] at HCt
                      clear HIn
                      go_wp2_with fail
                      refine (unhide HSl).mono ?_
                      rintro e w6 ⟨rfl, m2, rfl⟩
                      go_wp2_with fail
                      refine (unhide HCt _ (by exact (unhide HFu).2.2.1)).mono ?_
                      rintro e w7 ⟨rfl, rfl⟩
                      go_wp2
                      go_roundw
                      case rel => exact ⟨j + 1, by omega, by go_num, by rw [unhide HUs]; simp, _, rfl⟩
                      case measure => simp [intOf]; omega
                  · have hje : j = n := by omega
                    have e1 : usedTo tb j = Tab.firsts ns k := by rw [hje]; exact unhide HU
                    rw [e1]
                    have HF5 := hide (full_drewN (unhide HFu) m)
                    have hfk := Tab.firsts_le ns k
                    clear hje e1
                    go_wp2
                    go_loopw [17] (fun t wx => ∃ i : Nat, i ≤ k ∧ t = .int .i64 i ∧ Full w1 wx g w1.heap.size n ns tb) (fun t _ => k - (intOf t).toNat)
                    case atStart => exact ⟨0, Nat.zero_le _, rfl, unhide HF5⟩
                    case round =>
                      obtain ⟨i, hi, rfl, hfu⟩ := hrel
                      by_cases hik : i < k
                      · have hl2 := unhide HL
                        have ci : wr.cell? ⟨w1.heap.size, i, none⟩ = some (.string (ns.getD i ⟨#[]⟩)) := ownS_cell hfu.2.2.1 (by omega)
                        have HAg := hide (full_again (c := c') (k := i) hfu (by omega) (unhide HS).pow (by omega) (unhide hgw) (unhide hgb) (unhide HZ i hik))
                        clear hfu hl2
                        generalize ns.getD i ⟨#[]⟩ = s at *
                        go_wp2_with fail
                        refine (unhide HAg).mono ?_
                        rintro e w8 ⟨rfl, hfu⟩
                        have HFu2 := hide hfu
                        clear hfu
                        go_wp2
                        go_roundw
                        case rel => exact ⟨i + 1, by omega, by go_num, unhide HFu2⟩
                        case measure => simp [intOf]; omega
                      · have HF6 := hide hfu
                        have HT6 := hide hfu.2.1
                        have HB6 := hide hfu.2.2.2
                        clear hfu
                        go_wp2
                        go_loopw [18, 19] (fun z t wx => ∃ j : Nat, j ≤ n ∧ t = .int .i64 j ∧ z = .int .i64 (usedTo tb j) ∧ ∃ m, wx = wr.drewN m) (fun _ t _ => n - (intOf t).toNat)
                        case atStart => exact ⟨0, Nat.zero_le _, rfl, by rw [usedTo_zero]; rfl, 0, rfl⟩
                        case round =>
                          obtain ⟨j, hj, rfl, rfl, m9, rfl⟩ := hrel
                          by_cases hjn : j < n
                          · obtain ⟨o1, ho1⟩ : ∃ o1, tb[j]? = some o1 := ⟨_, List.getElem?_eq_getElem (by have := unhide HTl; omega)⟩
                            have HSl := hide (zzslot_any g n c' j tb o1 (wr.drewN m9) (by exact unhide HT6) (unhide HTl) (by omega) ho1)
                            have HUs := hide (usedTo_succ ho1)
                            have hub := usedTo_le tb j
                            clear ho1
                            cases o1 with
                            | none =>
                              simp only [Option.getD_none, Option.isSome_none] at HSl HUs
                              go_wp2_with fail
                              refine (unhide HSl).mono ?_
                              rintro e w6 ⟨rfl, m2, rfl⟩
                              go_wp2
                              go_roundw
                              case rel => exact ⟨j + 1, by omega, by go_num, by rw [unhide HUs]; simp, _, rfl⟩
                              case measure => simp [intOf]; omega
                            | some s =>
                              simp only [Option.getD_some, Option.isSome_some] at HSl HUs
                              go_wp2_with fail
                              refine (unhide HSl).mono ?_
                              rintro e w6 ⟨rfl, m2, rfl⟩
                              go_wp2
                              go_roundw
                              case rel => exact ⟨j + 1, by omega, by go_num, by rw [unhide HUs]; simp, _, rfl⟩
                              case measure => simp [intOf]; omega
                          · have hje : j = n := by omega
                            have e1 : usedTo tb j = Tab.firsts ns k := by rw [hje]; exact unhide HU
                            rw [e1]
                            clear hje e1
                            go_wp2
                            go_ret
                            exact ⟨rfl, below_drewN (unhide HB6) m9⟩
end Go.Proofs.Qxb6000496a
