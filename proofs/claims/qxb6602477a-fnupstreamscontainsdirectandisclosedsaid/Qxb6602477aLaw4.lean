import Derived.Test.Qxb6602477aClosed
import Derived.Test.Qxb6602477aBytes2
namespace Go.Proofs.Qxb6602477a
open Go.ChangeShapes Go.WideShapes Go.ChangeAt Go.RowKit

set_option maxRecDepth 100000 in
set_option maxHeartbeats 8000000 in
theorem law4 (a : Option Addr) (len cap : Nat) (ks : List Kept) (g : Kept) (w : World) (hg : Gems w a len ks) (hk : g.ok w) :
    Calls Try.prog 4 #[.slice a len cap, g.val] w fun e w' => e = .returned (.bool true) ∧ Below w.heap.size w w' := by
  have H5 := hide (fun w1 (hb : Below (w.alloc (boxOf g)).heap.size (w.alloc (boxOf g)) w1) => bytes14_any a len cap ks g w1 (gems_stays (box_below hb) hg) (ok_stays (box_below hb) hk))
  have H6 := hide (fun w1 (hb : Below (w.alloc (boxOf g)).heap.size (w.alloc (boxOf g)) w1) h1 h2 h3 => gemsBytes_any a len cap ks g w1 (gems_stays (box_below hb) hg) (ok_stays (box_below hb) hk) h1 h2 h3)
  have H7 := hide (fun w1 (hb : Below (w.alloc (boxOf g)).heap.size (w.alloc (boxOf g)) w1) h1 h2 => cloneLGems_any a len cap ks w1 (gems_stays (box_below hb) hg) h1 h2)
  have H8 := hide (fun w1 (hb : Below (w.alloc (boxOf g)).heap.size (w.alloc (boxOf g)) w1) h1 => cloneLGem_any g w1 (ok_stays (box_below hb) hk) h1)
  have H15 := hide (fun w1 (hb : Below (w.alloc (boxOf g)).heap.size (w.alloc (boxOf g)) w1) h1 => distinct_any a len cap ks w1 (gems_stays (box_below hb) hg) h1)
  have HBx := hide (fun w1 (hb : Below (w.alloc (boxOf g)).heap.size (w.alloc (boxOf g)) w1) => five (box_stays hb))
  have HBw := hide (fun w1 (hb : Below (w.alloc (boxOf g)).heap.size (w.alloc (boxOf g)) w1) => box_below hb)
  have HL := hide hg.1
  have HGE : Hid (∀ w1 e w2, GemEnd g w1 e w2 → ∃ k' : Kept, e = .returned k'.val ∧ SameGem g k' ∧ k'.ok w2 ∧ Below w1.heap.size w1 w2 ∧ ∀ x, k'.at? = some x → w1.heap.size ≤ x.block) := fun _ _ _ h => h
  clear hg hk
  unfold Kept.val at H5 H6 H8
  unfold boxOf at H5 H6 H7 H8 H15 HBx HBw
  unfold Kept.val
  obtain ⟨⟨gn, gv, gs, greq, gl⟩, ga, gcap⟩ := g
  dsimp only at H5 H6 H7 H8 H15 HBx HBw ⊢
  generalize hgl : greq.length = glen at *
  have HGL := hide hgl
  clear hgl
  have hb0 := Below.refl (w.alloc (Obj.cells #[.string gn, .string gv, .string gs, .slice ga glen gcap, .int .i64 gl] 25)).heap.size (w.alloc (Obj.cells #[.string gn, .string gv, .string gs, .slice ga glen gcap, .int .i64 gl] 25))
  have HB0 := hide hb0
  clear hb0
  go_enter Try.func4, Try.ntmps4
  go_wp2_with fail
  refine (unhide H5 _ (unhide HB0)).mono ?_
  rintro e w1 ⟨r, rfl, hr, hb1⟩
  have HB1 := hide hb1
  have HR := hide hr
  clear hb1 hr
  cases r with
  | false =>
    go_wp2
    go_ret
    exact ⟨rfl, unhide HBw _ (unhide HB1)⟩
  | true =>
    obtain ⟨hlen, hsum⟩ := unhide HR rfl
    obtain ⟨x0, x1, x2, x3, x4, xf⟩ := unhide HBx _ (unhide HB1)
    have HLS : Hid (∀ i, i < len → (gk ks i).gem.req.length ≤ 1048576) := fun i hi => by have := sumTo_get (ks := ks) (n := len) (i := i) (by rw [unhide HL]; exact Nat.le_refl _) hi; omega
    clear HR
    go_wp2_with fail
    refine (unhide H6 _ (unhide HB1) hlen (by omega) (unhide HLS)).mono ?_
    rintro e w2 ⟨q, rfl, hb2⟩
    have HB2 := hide ((unhide HB1).trans (hb2.mono (unhide HB1).size))
    clear hb2 x0 x1 x2 x3 x4 xf HB1
    by_cases hq : 1048576 < q
    · go_wp2
      go_ret
      exact ⟨rfl, unhide HBw _ (unhide HB2)⟩
    by_cases h12 : 4096 < len
    · have h12' : (4096 : Int) < (len : Int) := by omega
      go_wp2
      go_ret
      exact ⟨rfl, unhide HBw _ (unhide HB2)⟩
    have h12' : (len : Int) ≤ 4096 := by omega
    go_wp2_with fail
    refine (unhide H15 _ (unhide HB2) hlen).mono ?_
    rintro e w2' ⟨r15, rfl, hr15, hb2'⟩
    have HB2' := hide ((unhide HB2).trans (hb2'.mono (unhide HB2).size))
    have HD := hide hr15
    clear hr15 hb2' HB2 h12
    have HB2 := HB2'
    clear HB2'
    by_cases hr0 : r15 = false
    · subst hr0
      go_wp2
      go_ret
      exact ⟨rfl, unhide HBw _ (unhide HB2)⟩
    obtain rfl : r15 = true := by simpa using hr0
    clear hr0
    have HDis := hide (unhide HD rfl)
    clear HD
    obtain ⟨x0, x1, x2, x3, x4, xf⟩ := unhide HBx _ (unhide HB2)
    go_wp2_with fail
    refine (unhide H7 _ (unhide HB2) hlen (unhide HLS)).mono ?_
    rintro e w3 ⟨a3, cap3, ks3, rfl, hg3, hs3, hb3, hloc3, hlg3⟩
    have HB3 := hide ((unhide HB2).trans (hb3.mono (unhide HB2).size))
    have HG3 := hide hg3
    have HS3 : Hid (SameGems len ks ks3) := ⟨unhide HL, hg3.1, hs3⟩
    have HLoc3 : Hid ((∀ x, a3 = some x → x.block ≠ w.heap.size) ∧ ∀ k ∈ ks3, 0 < k.gem.req.length → ∀ x, k.at? = some x → x.block ≠ w.heap.size) := by
      have := (unhide HB2).size
      rw [World.size_alloc] at this
      exact ⟨fun x hx => by have := hloc3 x hx; omega, fun k hk hp x hx => by have := hlg3 k hk hp x hx; omega⟩
    clear hb3 hg3 hs3 hloc3 hlg3 x0 x1 x2 x3 x4 xf HB2 hq
    obtain ⟨x0, x1, x2, x3, x4, xf⟩ := unhide HBx _ (unhide HB3)
    go_wp2_with fail
    refine (unhide H8 _ (unhide HB3) (by omega)).mono ?_
    intro e w4 hend
    obtain ⟨g4, rfl, hs4, hok4, hb4, hloc4⟩ := unhide HGE _ _ _ hend
    have HB4 := hide ((unhide HB3).trans (hb4.mono (unhide HB3).size))
    have HP := hide (box_put g4 (box_stays (k := ⟨⟨gn, gv, gs, greq, gl⟩, ga, gcap⟩) (by unfold boxOf; dsimp only; rw [unhide HGL]; exact unhide HB4)) (gems_stays hb4 (unhide HG3)) (unhide HLoc3).1 (unhide HLoc3).2 hok4 (fun hp x hx => by have h1 := hloc4 x hx; have := (unhide HB3).size; rw [World.size_alloc] at this; omega) (unhide HBw _ (unhide HB4)))
    clear hend x0 x1 x2 x3 x4 xf hb4 hok4 hloc4
    obtain ⟨x0, x1, x2, x3, x4, xf⟩ := unhide HBx _ (unhide HB4)
    have HS4 := hide hs4
    unfold Kept.val
    obtain ⟨⟨n4, v4, s4, r4, l4⟩, a4, c4⟩ := g4
    clear hs4
    dsimp only
    have HC4 := hide (rfl : r4.length = r4.length)
    generalize hq4 : r4.length = len4 at HP HC4 ⊢
    clear HC4
    unfold put0 at HP
    dsimp only at HP
    rw [hq4] at HP
    have HQ4 := hide hq4
    clear hq4
    have hlen4 : len4 = glen := by rw [← unhide HQ4, ← unhide HGL]; exact congrArg List.length (congrArg Gem.req (unhide HS4).1)
    have HSum0 : Hid (sumTo ks3 len + len4 ≤ 1048576) := by rw [hide (rfl : len4 = len4), sameGems_sum (unhide HS3) len (Nat.le_refl _), hlen4]; exact hsum
    clear hlen4
    go_wp2_with fail
    clear x0 x1 x2 x3 x4 xf HB4 HG3 HB3 HLoc3 H5 H6 H7 H8 H15 HBx HBw HGE HB0
    generalize (World.setCell _ _ _ : World) = W at HP ⊢
    have HSum := HSum0
    clear HSum0
    have H10 : Hid (∀ w1, Below W.heap.size W w1 → Calls Try.prog 10 #[.slice a3 len cap3] w1 fun e w' => GemsEnd len ks3 w1 e w') := fun w1 hb => toGems_any a3 len cap3 ks3 w1 (gems_stays hb (unhide HP).gems) hlen
    have H11 : Hid (∀ w1, Calls Try.prog 11 #[.agg #[.string n4, .string v4, .string s4, .slice a4 len4 c4, .int .i64 l4]] w1 fun e w' => e = .returned (.agg #[.string n4, .string v4, .string s4, .slice a4 len4 c4, .int .i64 l4]) ∧ Below w1.heap.size w1 w') := fun w1 => by
      have := toGem_any ⟨⟨n4, v4, s4, r4, l4⟩, a4, c4⟩ w1
      unfold Kept.val at this
      dsimp only at this
      rw [unhide HQ4] at this
      exact this
    have H9 : Hid (∀ w1 a2 cap2 ks2, Gems w1 a2 len ks2 → SameGems len ks3 ks2 → Below W.heap.size W w1 → Calls Try.prog 9 #[.slice a2 len cap2, .agg #[.string n4, .string v4, .string s4, .slice a4 len4 c4, .int .i64 l4]] w1 fun e w' => UpEnd ks2 r4 w1 e w') := fun w1 a2 cap2 ks2 hg hs hb => by
      have := up_any a2 len cap2 ks2 ⟨⟨n4, v4, s4, r4, l4⟩, a4, c4⟩ w1 hg (ok_stays hb (unhide HP).ok) hlen (by dsimp only; rw [sameGems_sum hs len (Nat.le_refl _), unhide HQ4]; exact unhide HSum)
      unfold Kept.val at this
      dsimp only at this
      rw [unhide HQ4] at this
      exact this
    have HS : Hid (∀ w1, Below W.heap.size W w1 → w1.cell? ⟨w.heap.size, 0, none⟩ = some (.string n4) ∧ w1.cell? ⟨w.heap.size, 1, none⟩ = some (.string v4) ∧ w1.cell? ⟨w.heap.size, 2, none⟩ = some (.string s4) ∧ w1.cell? ⟨w.heap.size, 3, none⟩ = some (.slice a4 len4 c4) ∧ w1.cell? ⟨w.heap.size, 4, none⟩ = some (.int .i64 l4)) :=
      fun w1 hb => ⟨cell_stays hb (unhide HP).c0, cell_stays hb (unhide HP).c1, cell_stays hb (unhide HP).c2, by have := cell_stays hb (unhide HP).c3; dsimp only at this; rw [unhide HQ4] at this; exact this, cell_stays hb (unhide HP).c4⟩
    have HBw : Hid (∀ w1, Below W.heap.size W w1 → Below w.heap.size w w1) := fun w1 hb => (unhide HP).bel.trans (hb.mono (unhide HP).bel.size)
    have HSt : Hid (∀ w1, Below W.heap.size W w1 → Strs w1 a4 len4 r4) := fun w1 hb => by
      have := ok_stays hb (unhide HP).ok
      unfold Kept.ok at this
      dsimp only at this
      rw [unhide HQ4] at this
      exact this
    refine (unhide H10 _ (Below.refl _ _)).mono ?_
    rintro e w5 ⟨a2, cap2, ks2, rfl, hg2, hs2, hb5⟩
    have HB5 := hide hb5
    have HG2 := hide hg2
    have HS2 : Hid (SameGems len ks3 ks2) := ⟨(unhide HP).gems.1, hg2.1, hs2⟩
    clear hb5 hg2 hs2
    obtain ⟨x0, x1, x2, x3, x4⟩ := unhide HS _ (unhide HB5)
    go_wp2_with fail
    refine (unhide H11 _).mono ?_
    rintro e w6 ⟨rfl, hb6⟩
    have HB6 := hide ((unhide HB5).trans (hb6.mono (unhide HB5).size))
    have HG6 := hide (gems_stays hb6 (unhide HG2))
    clear hb6 x0 x1 x2 x3 x4 HB5 HG2
    go_wp2_with fail
    refine (unhide H9 _ _ _ _ (unhide HG6) (unhide HS2) (unhide HB6)).mono ?_
    rintro e w7 ⟨ua, uc, L, R, rfl, hL, hR, hgu, hun, hb7⟩
    have HB7 := hide ((unhide HB6).trans (hb7.mono (unhide HB6).size))
    have HG7 := hide (gems_stays hb7 (unhide HG6))
    have HL7 := hide hL
    have HR7 := hide hR
    have HU7 := hide hgu
    have HLl : Hid (L.length ≤ len) := by have := filter_le hL; rw [(unhide HS2).2.1] at this; exact this
    obtain ⟨J, hJ1, hJ2⟩ := whole_in (unhide HS2) hL
    have H16 : Hid (Calls Try.prog 16 #[.slice ua L.length uc, .slice a3 len cap3] w7 fun e w' => TrueEnd w7 e w') :=
      whole_any ua L.length uc L a3 len cap3 ks3 J w7 hgu (gems_stays (unhide HB7) (unhide HP).gems) (by have := unhide HLl; omega) hlen hJ1 hJ2 (fun i hi => by
        have h1 := sumTo_get (ks := ks3) (n := len) (i := i) (by rw [(unhide HP).gems.1]; exact Nat.le_refl _) hi
        have h2 := unhide HSum
        omega)
    have HDi : Hid (∀ s, s ∈ r4 → isIn (names ks3) s = true → isIn (names L) s = true) := fun s hs hin => by rw [hL]; exact direct_in (unhide HS2) hR hs hin
    have HD2 : Hid (Distinct ks2.length ks2) := by
      have := same_names_distinct (unhide HS2) (same_names_distinct (unhide HS3) (unhide HDis))
      rw [(unhide HS2).2.1]; exact this
    clear hL hR hgu hun hb7 hJ1 hJ2 HB6 HG6 H9 H10 H11
    go_wp2_with fail
    refine (unhide H16).mono ?_
    rintro e w8 ⟨rfl, hb8⟩
    have HB8 := hide ((unhide HB7).trans (hb8.mono (unhide HB7).size))
    have HG8 := hide (gems_stays hb8 (unhide HG7))
    have HU8 := hide (gems_stays hb8 (unhide HU7))
    have H3 := hide (gems_stays (unhide HB8) (unhide HP).gems)
    clear hb8 H16 HB7 HG7 HU7
    generalize hmm : L.length = m at HU8 HLl ⊢
    have HMM := hide hmm
    have hml := unhide HLl
    clear hmm HLl
    have hl4 : len4 ≤ 1048576 := by have := unhide HSum; omega
    obtain ⟨x0, x1, x2, x3, x4⟩ := unhide HS _ (unhide HB8)
    have HSt8 := hide (unhide HSt _ (unhide HB8))
    have H17 : Hid (∀ s, Calls Try.prog 17 #[.slice a3 len cap3, .string s] w8 fun e w' => e = .returned (.bool (isIn (names ks3) s)) ∧ w' = w8) := fun s => lhas_any a3 len cap3 ks3 s w8 (unhide H3) hlen
    have H18 : Hid (∀ s, Calls Try.prog 18 #[.slice ua m uc, .string s] w8 fun e w' => e = .returned (.bool (isIn (names L) s)) ∧ w' = w8) := fun s => ghas_any ua m uc L s w8 (unhide HU8) (by omega)
    clear x0 x1 x2 x4
    go_wp2
    go_loop [7] (fun t => ∃ i : Nat, i ≤ len4 ∧ t = .int .i64 i) (fun t => len4 - (intOf t).toNat)
    case atStart => exact ⟨0, Nat.zero_le _, rfl⟩
    case round =>
      obtain ⟨i, hi, rfl⟩ := hrel
      by_cases hil : i < len4
      · obtain ⟨rb, ro, rfl, hrc⟩ := (unhide HSt8).2 (by omega)
        have cs := hrc i hil
        have hil' : (i : Int) < (len4 : Int) := by omega
        have HIn := hide (unhide HDi (nm r4 i) (nm_mem (by rw [(unhide HSt8).1]; exact hil)))
        have K17 := hide (unhide H17 (nm r4 i))
        have K18 := hide (unhide H18 (nm r4 i))
        clear hrc
        generalize nm r4 i = s at *
        generalize hb17 : isIn (names ks3) s = b17 at *
        generalize hb18 : isIn (names L) s = b18 at *
        clear hb17 hb18
        go_wp2_with fail
        refine (unhide K17).mono ?_
        rintro e w' ⟨rfl, rfl⟩
        cases b17 with
        | false =>
          go_wp2
          go_round
          case rel => exact ⟨i + 1, by omega, by go_num⟩
          case measure => simp [intOf]; omega
        | true =>
          obtain rfl := unhide HIn rfl
          go_wp2_with fail
          refine (unhide K18).mono ?_
          rintro e w' ⟨rfl, rfl⟩
          go_wp2
          go_round
          case rel => exact ⟨i + 1, by omega, by go_num⟩
          case measure => simp [intOf]; omega
      · have HB8' := hide (Below.refl w8.heap.size w8)
        have HBw8 : Hid (∀ w1, Below w8.heap.size w8 w1 → Below w.heap.size w w1) := fun w1 hb => unhide HBw _ ((unhide HB8).trans (hb.mono (unhide HB8).size))
        clear H17 H18 HDi
        go_wp2
        clear x3
        go_loopg [8] m (fun q t wr => ∃ k : Nat, k + q = m ∧ t = .int .i64 k ∧ Below w8.heap.size w8 wr)
        case atStart => exact ⟨0, by omega, rfl, unhide HB8'⟩
        case round =>
          obtain ⟨k, hkq, rfl, hbr⟩ := hrel
          have HBr := hide hbr
          have HKQ := hide hkq
          clear hbr hkq
          by_cases hlt : k < m
          · obtain ⟨ub, uo, rfl, hcu⟩ := (unhide HU8).2.1 (by omega)
            have hlt' : (k : Int) < (m : Int) := by omega
            have hU := gemAt_stays (unhide HBr) (hcu k hlt)
            have HMem := hide (gk_mem (ks := L) (i := k) (by rw [unhide HMM]; exact hlt))
            have HOk := hide (ok_stays (unhide HBr) ((unhide HU8).2.2 _ (unhide HMem)))
            have HRq : Hid ((Go.Proofs.Qxb6602477a.gk L k).gem.req.length ≤ 1048576) := by
              have h1 := filter_req (unhide HL7) (unhide HS2).2.1 (k := k) (by rw [unhide HMM]; exact hlt)
              rw [sameGems_sum (unhide HS2) len (Nat.le_refl _)] at h1
              have h2 := unhide HSum
              exact Nat.le_trans h1 (by omega)
            clear hcu
            generalize Go.Proofs.Qxb6602477a.gk L k = G1 at *
            have K9 : Hid (Calls Try.prog 9 #[.slice a2 len cap2, G1.val] wr fun e w' => UpEnd ks2 G1.gem.req wr e w') :=
              up_any2 a2 len cap2 ks2 G1 wr (gems_stays (unhide HBr) (unhide HG8)) (unhide HOk) hlen (by
                rw [sameGems_sum (unhide HS2) len (Nat.le_refl _)]
                have h1 := unhide HSum
                have h2 := unhide HRq
                omega)
            have HSub : Hid (∀ (L' : List Kept) (R' : ByteArray → Bool), L' = ks2.filter (fun k => R' k.gem.name) → (∀ s, R' s = true ↔ Reach (lead ks2) G1.gem.req s) → ∃ J, Asc L'.length L.length J ∧ ∀ k, k < L'.length → (Go.Proofs.Qxb6602477a.gk L (J k)).gem.name = (Go.Proofs.Qxb6602477a.gk L' k).gem.name) :=
              fun L' R' h1 h2 => sub_in (unhide HL7) (unhide HR7) h1 h2 (unhide HD2) (unhide HMem)
            clear HRq HOk HMem
            obtain ⟨⟨n1, v1, s1, r1, l1⟩, a1, c1⟩ := G1
            obtain ⟨u0, u1, u2, u3, u4⟩ := hU
            unfold Kept.val at K9
            dsimp only at u0 u1 u2 u3 u4 K9 HSub
            generalize r1.length = rl1 at *
            go_wp2_with fail
            refine (unhide K9).mono ?_
            rintro e w9 ⟨sa, sc, L', R', rfl, hL', hR', hgs, hun', hb9⟩
            obtain ⟨J2, hJ3, hJ4⟩ := unhide HSub L' R' hL' hR'
            have HB9 := hide ((unhide HBr).trans (hb9.mono (unhide HBr).size))
            have hll : L'.length ≤ 1048576 := by have := filter_le hL'; rw [(unhide HS2).2.1] at this; omega
            rw [unhide HMM] at hJ3
            have K19 : Hid (Calls Try.prog 19 #[.slice sa L'.length sc, .slice (some ⟨ub, uo, none⟩) m uc] w9 fun e w' => TrueEnd w9 e w') :=
              subnames_any sa L'.length sc L' (some ⟨ub, uo, none⟩) m uc L J2 w9 hgs (gems_stays (unhide HB9) (unhide HU8)) hll (by omega) hJ3 hJ4
            clear hL' hR' hgs hun' hb9 hJ3 hJ4 u0 u1 u2 u3 u4
            generalize L'.length = m' at *
            go_wp2_with fail
            refine (unhide K19).mono ?_
            rintro e w10 ⟨rfl, hb10⟩
            have HB10 := hide ((unhide HB9).trans (hb10.mono (unhide HB9).size))
            clear hb10
            go_wp2
            go_roundg (m - (k + 1))
            case measure => have := unhide HKQ; omega
            case rel => exact ⟨k + 1, by omega, by go_num, unhide HB10⟩
          · go_wp2
            go_ret
            exact ⟨rfl, unhide HBw8 _ (unhide HBr)⟩
end Go.Proofs.Qxb6602477a
