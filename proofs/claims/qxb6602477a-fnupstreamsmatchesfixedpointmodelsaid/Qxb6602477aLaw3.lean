import Derived.Test.Qxb6602477aBox
namespace Go.Proofs.Qxb6602477a
open Go.ChangeShapes Go.WideShapes Go.ChangeAt Go.RowKit

set_option maxRecDepth 100000 in
set_option maxHeartbeats 8000000 in
theorem law3 (a : Option Addr) (len cap : Nat) (ks : List Kept) (g : Kept) (w : World) (hg : Gems w a len ks) (hk : g.ok w) :
    Calls Try.prog 3 #[.slice a len cap, g.val] w fun e w' => e = .returned (.bool true) ∧ Below w.heap.size w w' := by
  have H5 := hide (fun w1 (hb : Below (w.alloc (boxOf g)).heap.size (w.alloc (boxOf g)) w1) => bytes5_any a len cap ks g w1 (gems_stays (box_below hb) hg) (ok_stays (box_below hb) hk))
  have H6 := hide (fun w1 (hb : Below (w.alloc (boxOf g)).heap.size (w.alloc (boxOf g)) w1) h1 h2 h3 => gemsBytes_any a len cap ks g w1 (gems_stays (box_below hb) hg) (ok_stays (box_below hb) hk) h1 h2 h3)
  have H7 := hide (fun w1 (hb : Below (w.alloc (boxOf g)).heap.size (w.alloc (boxOf g)) w1) h1 h2 => cloneLGems_any a len cap ks w1 (gems_stays (box_below hb) hg) h1 h2)
  have H8 := hide (fun w1 (hb : Below (w.alloc (boxOf g)).heap.size (w.alloc (boxOf g)) w1) h1 => cloneLGem_any g w1 (ok_stays (box_below hb) hk) h1)
  have HBx := hide (fun w1 (hb : Below (w.alloc (boxOf g)).heap.size (w.alloc (boxOf g)) w1) => five (box_stays hb))
  have HBw := hide (fun w1 (hb : Below (w.alloc (boxOf g)).heap.size (w.alloc (boxOf g)) w1) => box_below hb)
  have HL := hide hg.1
  have HGE : Hid (∀ w1 e w2, GemEnd g w1 e w2 → ∃ k' : Kept, e = .returned k'.val ∧ SameGem g k' ∧ k'.ok w2 ∧ Below w1.heap.size w1 w2 ∧ ∀ x, k'.at? = some x → w1.heap.size ≤ x.block) := fun _ _ _ h => h
  clear hg hk
  unfold Kept.val at H5 H6 H8
  unfold boxOf at H5 H6 H7 H8 HBx HBw
  unfold Kept.val
  obtain ⟨⟨gn, gv, gs, greq, gl⟩, ga, gcap⟩ := g
  dsimp only at H5 H6 H7 H8 HBx HBw ⊢
  generalize hgl : greq.length = glen at *
  have HGL := hide hgl
  clear hgl
  have hb0 := Below.refl (w.alloc (Obj.cells #[.string gn, .string gv, .string gs, .slice ga glen gcap, .int .i64 gl] 25)).heap.size (w.alloc (Obj.cells #[.string gn, .string gv, .string gs, .slice ga glen gcap, .int .i64 gl] 25))
  have HB0 := hide hb0
  clear hb0
  go_enter Try.func3, Try.ntmps3
  go_wp2_with fail
  refine (unhide H5 _ (unhide HB0)).mono ?_
  rintro e w1 ⟨r, rfl, hr, hb1⟩
  have HB1 := hide hb1
  have HR := hide hr
  clear hb1 hr
  cases r with
  | false =>
    go_wp2
    go_ret
    exact ⟨rfl, unhide HBw _ (unhide HB1)⟩
  | true =>
    obtain ⟨hlen, hsum⟩ := unhide HR rfl
    obtain ⟨x0, x1, x2, x3, x4, xf⟩ := unhide HBx _ (unhide HB1)
    have HLS : Hid (∀ i, i < len → (gk ks i).gem.req.length ≤ 1048576) := fun i hi => by have := sumTo_get (ks := ks) (n := len) (i := i) (by rw [unhide HL]; exact Nat.le_refl _) hi; omega
    clear HR
    go_wp2_with fail
    refine (unhide H6 _ (unhide HB1) hlen (by omega) (unhide HLS)).mono ?_
    rintro e w2 ⟨q, rfl, hb2⟩
    have HB2 := hide ((unhide HB1).trans (hb2.mono (unhide HB1).size))
    clear hb2 x0 x1 x2 x3 x4 xf HB1
    by_cases hq : 1048576 < q
    · go_wp2
      go_ret
      exact ⟨rfl, unhide HBw _ (unhide HB2)⟩
    obtain ⟨x0, x1, x2, x3, x4, xf⟩ := unhide HBx _ (unhide HB2)
    go_wp2_with fail
    refine (unhide H7 _ (unhide HB2) hlen (unhide HLS)).mono ?_
    rintro e w3 ⟨a3, cap3, ks3, rfl, hg3, hs3, hb3, hloc3, hlg3⟩
    have HB3 := hide ((unhide HB2).trans (hb3.mono (unhide HB2).size))
    have HG3 := hide hg3
    have HS3 : Hid (SameGems len ks ks3) := ⟨unhide HL, hg3.1, hs3⟩
    have HLoc3 : Hid ((∀ x, a3 = some x → x.block ≠ w.heap.size) ∧ ∀ k ∈ ks3, 0 < k.gem.req.length → ∀ x, k.at? = some x → x.block ≠ w.heap.size) := by
      have := (unhide HB2).size
      rw [World.size_alloc] at this
      exact ⟨fun x hx => by have := hloc3 x hx; omega, fun k hk hp x hx => by have := hlg3 k hk hp x hx; omega⟩
    clear hb3 hg3 hs3 hloc3 hlg3 x0 x1 x2 x3 x4 xf HB2 hq
    obtain ⟨x0, x1, x2, x3, x4, xf⟩ := unhide HBx _ (unhide HB3)
    go_wp2_with fail
    refine (unhide H8 _ (unhide HB3) (by omega)).mono ?_
    intro e w4 hend
    obtain ⟨g4, rfl, hs4, hok4, hb4, hloc4⟩ := unhide HGE _ _ _ hend
    have HB4 := hide ((unhide HB3).trans (hb4.mono (unhide HB3).size))
    have HP := hide (box_put g4 (box_stays (k := ⟨⟨gn, gv, gs, greq, gl⟩, ga, gcap⟩) (by unfold boxOf; dsimp only; rw [unhide HGL]; exact unhide HB4)) (gems_stays hb4 (unhide HG3)) (unhide HLoc3).1 (unhide HLoc3).2 hok4 (fun hp x hx => by have h1 := hloc4 x hx; have := (unhide HB3).size; rw [World.size_alloc] at this; omega) (unhide HBw _ (unhide HB4)))
    clear hend x0 x1 x2 x3 x4 xf hb4 hok4 hloc4
    obtain ⟨x0, x1, x2, x3, x4, xf⟩ := unhide HBx _ (unhide HB4)
    have HS4 := hide hs4
    unfold Kept.val
    obtain ⟨⟨n4, v4, s4, r4, l4⟩, a4, c4⟩ := g4
    clear hs4
    dsimp only
    have HC4 := hide (rfl : r4.length = r4.length)
    generalize hq4 : r4.length = len4 at HP HC4 ⊢
    clear HC4
    unfold put0 at HP
    dsimp only at HP
    rw [hq4] at HP
    have HQ4 := hide hq4
    clear hq4
    go_wp2_with fail
    have hlen4 : len4 = glen := by rw [← unhide HQ4, ← unhide HGL]; exact congrArg List.length (congrArg Gem.req (unhide HS4).1)
    clear x0 x1 x2 x3 x4 xf HB4 HG3 HB3 HLoc3 H5 H6 H7 H8 HBx HBw HGE HB0
    generalize (World.setCell _ _ _ : World) = W at HP ⊢
    have HSum : Hid (sumTo ks3 len + len4 ≤ 1048576) := by rw [hide (rfl : len4 = len4), sameGems_sum (unhide HS3) len (Nat.le_refl _), hlen4]; exact hsum
    clear hlen4
    have H10 : Hid (∀ w1, Below W.heap.size W w1 → Calls Try.prog 10 #[.slice a3 len cap3] w1 fun e w' => GemsEnd len ks3 w1 e w') := fun w1 hb => toGems_any a3 len cap3 ks3 w1 (gems_stays hb (unhide HP).gems) hlen
    have H11 : Hid (∀ w1, Calls Try.prog 11 #[.agg #[.string n4, .string v4, .string s4, .slice a4 len4 c4, .int .i64 l4]] w1 fun e w' => e = .returned (.agg #[.string n4, .string v4, .string s4, .slice a4 len4 c4, .int .i64 l4]) ∧ Below w1.heap.size w1 w') := fun w1 => by
      have := toGem_any ⟨⟨n4, v4, s4, r4, l4⟩, a4, c4⟩ w1
      unfold Kept.val at this
      dsimp only at this
      rw [unhide HQ4] at this
      exact this
    have H9 : Hid (∀ w1 a2 cap2 ks2, Gems w1 a2 len ks2 → SameGems len ks3 ks2 → Below W.heap.size W w1 → Calls Try.prog 9 #[.slice a2 len cap2, .agg #[.string n4, .string v4, .string s4, .slice a4 len4 c4, .int .i64 l4]] w1 fun e w' => UpEnd ks2 r4 w1 e w') := fun w1 a2 cap2 ks2 hg hs hb => by
      have := up_any a2 len cap2 ks2 ⟨⟨n4, v4, s4, r4, l4⟩, a4, c4⟩ w1 hg (ok_stays hb (unhide HP).ok) hlen (by dsimp only; rw [sameGems_sum hs len (Nat.le_refl _), unhide HQ4]; exact unhide HSum)
      unfold Kept.val at this
      dsimp only at this
      rw [unhide HQ4] at this
      exact this
    have HS : Hid (∀ w1, Below W.heap.size W w1 → w1.cell? ⟨w.heap.size, 0, none⟩ = some (.string n4) ∧ w1.cell? ⟨w.heap.size, 1, none⟩ = some (.string v4) ∧ w1.cell? ⟨w.heap.size, 2, none⟩ = some (.string s4) ∧ w1.cell? ⟨w.heap.size, 3, none⟩ = some (.slice a4 len4 c4) ∧ w1.cell? ⟨w.heap.size, 4, none⟩ = some (.int .i64 l4) ∧ Below W.heap.size W w1) :=
      fun w1 hb => ⟨cell_stays hb (unhide HP).c0, cell_stays hb (unhide HP).c1, cell_stays hb (unhide HP).c2, by have := cell_stays hb (unhide HP).c3; dsimp only at this; rw [unhide HQ4] at this; exact this, cell_stays hb (unhide HP).c4, hb⟩
    have hSd := unhide HS W.drew ((Below.refl _ _).drew)
    go_region_held3 (fun w1 => w1.cell? ⟨w.heap.size, 0, none⟩ = some (.string n4) ∧ w1.cell? ⟨w.heap.size, 1, none⟩ = some (.string v4) ∧ w1.cell? ⟨w.heap.size, 2, none⟩ = some (.string s4) ∧ w1.cell? ⟨w.heap.size, 3, none⟩ = some (.slice a4 len4 c4) ∧ w1.cell? ⟨w.heap.size, 4, none⟩ = some (.int .i64 l4) ∧ Below W.heap.size W w1)
      (first | assumption | exact hSd)
      (first
        | (go_at_call 10
           refine (unhide H10 _ hSd.2.2.2.2.2).mono ?_
           rintro e w5 ⟨a2, cap2, ks2, rfl, hg2, hs2, hb5⟩
           have hS5 := unhide HS _ (hSd.2.2.2.2.2.trans (hb5.mono hSd.2.2.2.2.2.size))
           have HG2 := hide hg2
           have HS2 : Hid (SameGems len ks3 ks2) := ⟨(unhide HP).gems.1, hg2.1, hs2⟩
           clear hg2 hs2 hb5
           go_wp2_with fail)
        | (go_at_call 11
           refine (unhide H11 _).mono ?_
           rintro e w6 ⟨rfl, hb6⟩
           have hS6 := unhide HS _ (hS5.2.2.2.2.2.trans (hb6.mono hS5.2.2.2.2.2.size))
           have HG2' := hide (gems_stays hb6 (unhide HG2))
           clear hb6
           go_wp2_with fail)
        | (go_at_call 9
           refine (unhide H9 _ _ _ _ (unhide HG2') (unhide HS2) hS6.2.2.2.2.2).mono ?_
           rintro e w7 ⟨ua, uc, L, R, rfl, hL, hR, hgu, hun, hb7⟩
           have hS7 := unhide HS _ (hS6.2.2.2.2.2.trans (hb7.mono hS6.2.2.2.2.2.size))
           have HL7 := hide hL
           have HR7 := hide hR
           have HU7 := hide hgu
           have HN7 := hide hun
           clear hb7 hL hR hgu hun
           go_wp2_with fail))
    have HB7 := hide hS7.2.2.2.2.2
    have hc3 := hS7.2.2.2.1
    have H12 : Hid (∀ w1, Below W.heap.size W w1 → Calls Try.prog 12 #[.slice a3 len cap3, .slice a4 len4 c4] w1 fun e w' => ModelEnd len ks3 r4 w1 e w') := fun w1 hb =>
      model_any a3 len cap3 ks3 a4 len4 c4 r4 w1 (gems_stays hb (unhide HP).gems) (by have := ok_stays hb (unhide HP).ok; unfold Kept.ok at this; dsimp only at this; rw [unhide HQ4] at this; exact this) hlen (by have := unhide HSum; omega) (fun i hi => by
        have h1 := sumTo_get (ks := ks3) (n := len) (i := i) (by rw [(unhide HP).gems.1]; exact Nat.le_refl _) hi
        have h2 := unhide HSum
        omega)
    have HBw : Hid (∀ w1, Below W.heap.size W w1 → Below w.heap.size w w1) := fun w1 hb => (unhide HP).bel.trans (hb.mono (unhide HP).bel.size)
    clear hS5 hS6 hS7 hSd HS H9 H10 H11 HG2 HG2'
    go_wp2_with fail
    refine (unhide H12 _ (unhide HB7)).mono ?_
    rintro e w8 ⟨wa, wc, J, T, rfl, hJi, hJ, hT, hb8⟩
    have HPk := hide (pick_of (unhide HS2) (unhide HL7) (unhide HR7) hJ hT)
    have HB8 := hide ((unhide HB7).trans (hb8.mono (unhide HB7).size))
    have HU8 := hide (gems_stays hb8 (unhide HU7))
    have HG8 := hide (gems_stays (unhide HB8) (unhide HP).gems)
    have HJ8 := hide hJi
    have HN8 := hide (fun (h0 : J.length = 0) => unhide HN7 (pick_nil (unhide HPk) h0))
    have HL8 : Hid (∀ i, i < len → (gk ks3 i).gem.req.length ≤ 1048576) := fun i hi => by
      have h1 := sumTo_get (ks := ks3) (n := len) (i := i) (by rw [(unhide HP).gems.1]; exact Nat.le_refl _) hi
      have h2 := unhide HSum
      omega
    clear hJ hT hJi hb8 HL7 HR7 HU7 HN7 HB7 H12 hc3
    have hLJ := (unhide HPk).len
    rw [hLJ] at HU8
    rw [hLJ]
    have hJle := (unhide HPk).le
    have HPl := hide (unhide HPk).lt
    have HPg := hide (unhide HPk).get
    clear HPk hLJ
    have hq30 := q30
    generalize J.length = m at *
    by_cases hm : m = 0
    · subst hm
      obtain rfl := unhide HN8 rfl
      go_wp2
      go_ret
      exact ⟨rfl, unhide HBw _ (unhide HB8)⟩
    · have hm0 : 0 < m := by omega
      obtain ⟨ub, uo, rfl, hcu⟩ := (unhide HU8).2.1 hm0
      obtain ⟨jb, jo, rfl, hcj⟩ := unhide HJ8 hm0
      obtain ⟨gb, go, rfl, hcg⟩ := (unhide HG8).2.1 (Nat.lt_of_le_of_lt (Nat.zero_le _) (unhide HPl 0 hm0))
      have HCU := hide hcu
      have HCJ := hide hcj
      have HCG := hide hcg
      have HOU := hide (unhide HU8).2.2
      have HOG := hide (unhide HG8).2.2
      have HLU := hide (unhide HU8).1
      have HLG := hide (unhide HG8).1
      have hm' : (m : Int) ≠ 0 := by omega
      have hmb : ((m : Int) == 0) = false := by simpa using hm'
      have HB8' := hide (Below.refl w8.heap.size w8)
      have HBw8 : Hid (∀ w1, Below w8.heap.size w8 w1 → Below w.heap.size w w1) := fun w1 hb => unhide HBw _ ((unhide HB8).trans (hb.mono (unhide HB8).size))
      clear hcu hcj hcg HU8 HJ8 HG8 HN8
      go_wp2
      go_loopg [7] m (fun q t wr => ∃ k : Nat, k + q = m ∧ t = .int .i64 k ∧ Below w8.heap.size w8 wr)
      case atStart => exact ⟨0, by omega, rfl, unhide HB8'⟩
      case round =>
        obtain ⟨k, hkq, rfl, hbr⟩ := hrel
        have HBr := hide hbr
        clear hbr
        by_cases hlt : k < m
        · have hU := unhide HCU k hlt
          have hJ := unhide HCJ k hlt
          have hG := unhide HCG _ (unhide HPl k hlt)
          have HSg := hide (unhide HPg k hlt)
          have hjl := unhide HPl k hlt
          have HO1 := hide (unhide HOU _ (gk_mem (ks := L) (i := k) (by rw [unhide HLU]; exact hlt)))
          have HO2 := hide (unhide HOG _ (gk_mem (ks := ks3) (i := J.getD k 0) (by rw [unhide HLG]; exact hjl)))
          have HL2 := hide (unhide HL8 _ hjl)
          generalize J.getD k 0 = j at *
          have hjl' : (j : Int) < (len : Int) := by omega
          have hlt' : (k : Int) < (m : Int) := by omega
          generalize Go.Proofs.Qxb6602477a.gk L k = G1 at *
          generalize Go.Proofs.Qxb6602477a.gk ks3 j = G2 at *
          have HL1 : Hid (G1.gem.req.length ≤ 1048576) := by rw [hide (rfl : G1 = G1), (unhide HSg).1]; exact unhide HL2
          have H13 : Hid (∀ w1, Below w8.heap.size w8 w1 → Calls Try.prog 13 #[G1.val, G2.val] w1 fun e w' => BoolEndB (SameGem G2 G1) w1 e w') := fun w1 hb => sameGem_any G1 G2 w1 (ok_stays hb (unhide HO1)) (ok_stays hb (unhide HO2)) (unhide HL1) (unhide HL2)
          obtain ⟨⟨n1, v1, s1, r1, l1⟩, a1, c1⟩ := G1
          obtain ⟨⟨n2, v2, s2, r2, l2⟩, a2', c2⟩ := G2
          obtain ⟨u0, u1, u2, u3, u4⟩ := hU
          obtain ⟨g0, g1, g2, g3, g4⟩ := hG
          unfold Kept.val at H13
          dsimp only at u0 u1 u2 u3 u4 g0 g1 g2 g3 g4 H13
          generalize r1.length = rl1 at *
          generalize r2.length = rl2 at *
          have HS : Hid (∀ w1, Below w8.heap.size w8 w1 → 
              w1.cell? ⟨ub, uo + k * 5, none⟩ = some (.string n1) ∧ w1.cell? ⟨ub, uo + k * 5 + 1, none⟩ = some (.string v1) ∧ w1.cell? ⟨ub, uo + k * 5 + 1 + 1, none⟩ = some (.string s1) ∧ w1.cell? ⟨ub, uo + k * 5 + 1 + 1 + 1, none⟩ = some (.slice a1 rl1 c1) ∧ w1.cell? ⟨ub, uo + k * 5 + 1 + 1 + 1 + 1, none⟩ = some (.int .i64 l1) ∧
              w1.cell? ⟨jb, jo + k, none⟩ = some (.int .i64 j) ∧
              w1.cell? ⟨gb, go + j * 5, none⟩ = some (.string n2) ∧ w1.cell? ⟨gb, go + j * 5 + 1, none⟩ = some (.string v2) ∧ w1.cell? ⟨gb, go + j * 5 + 1 + 1, none⟩ = some (.string s2) ∧ w1.cell? ⟨gb, go + j * 5 + 1 + 1 + 1, none⟩ = some (.slice a2' rl2 c2) ∧ w1.cell? ⟨gb, go + j * 5 + 1 + 1 + 1 + 1, none⟩ = some (.int .i64 l2) ∧ Below w8.heap.size w8 w1) :=
            fun w1 hb => ⟨cell_stays hb u0, cell_stays hb u1, cell_stays hb u2, cell_stays hb u3, cell_stays hb u4, cell_stays hb hJ, cell_stays hb g0, cell_stays hb g1, cell_stays hb g2, cell_stays hb g3, cell_stays hb g4, hb⟩
          clear u0 u1 u2 u3 u4 g0 g1 g2 g3 g4 hJ
          go_wp2_with fail
          have hSd := unhide HS _ (unhide HBr).drew
          go_region_held3 (fun w1 => w1.cell? ⟨ub, uo + k * 5, none⟩ = some (.string n1) ∧ w1.cell? ⟨ub, uo + k * 5 + 1, none⟩ = some (.string v1) ∧ w1.cell? ⟨ub, uo + k * 5 + 1 + 1, none⟩ = some (.string s1) ∧ w1.cell? ⟨ub, uo + k * 5 + 1 + 1 + 1, none⟩ = some (.slice a1 rl1 c1) ∧ w1.cell? ⟨ub, uo + k * 5 + 1 + 1 + 1 + 1, none⟩ = some (.int .i64 l1) ∧
              w1.cell? ⟨jb, jo + k, none⟩ = some (.int .i64 j) ∧
              w1.cell? ⟨gb, go + j * 5, none⟩ = some (.string n2) ∧ w1.cell? ⟨gb, go + j * 5 + 1, none⟩ = some (.string v2) ∧ w1.cell? ⟨gb, go + j * 5 + 1 + 1, none⟩ = some (.string s2) ∧ w1.cell? ⟨gb, go + j * 5 + 1 + 1 + 1, none⟩ = some (.slice a2' rl2 c2) ∧ w1.cell? ⟨gb, go + j * 5 + 1 + 1 + 1 + 1, none⟩ = some (.int .i64 l2) ∧ Below w8.heap.size w8 w1)
            (first | assumption | exact hSd)
            (first
              | (go_at_call 13
                 refine (unhide H13 _ hSd.2.2.2.2.2.2.2.2.2.2.2).mono ?_
                 rintro e w9 ⟨r, rfl, hr, hb9⟩
                 obtain rfl := hr (unhide HSg)
                 have hS9 := unhide HS _ (hSd.2.2.2.2.2.2.2.2.2.2.2.trans (hb9.mono hSd.2.2.2.2.2.2.2.2.2.2.2.size))
                 clear hb9 hr
                 go_wp2_with fail))
          have HB9 := hide hS9.2.2.2.2.2.2.2.2.2.2.2
          clear hS9 hSd HS
          go_wp2
          obtain ⟨q', rfl⟩ : ∃ q', gk = q' + 1 := ⟨gk - 1, by omega⟩
          go_roundg q'
          case measure => omega
          case rel => exact ⟨k + 1, by omega, by go_num, unhide HB9⟩
        · go_wp2
          go_ret
          exact ⟨rfl, unhide HBw8 _ (unhide HBr)⟩
end Go.Proofs.Qxb6602477a
