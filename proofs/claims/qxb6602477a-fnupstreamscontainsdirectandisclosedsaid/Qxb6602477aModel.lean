import Derived.Test.Qxb6602477aBlk
namespace Go.Proofs.Qxb6602477a
open Go.ChangeShapes Go.WideShapes Go.ChangeAt Go.RowKit

theorem str_eq_ne {s t : ByteArray} (h : s ≠ t) : (s.toList == t.toList) = false := str_ne h

/-- Numbers in a row, by a function on naturals. -/
def Nums (w : World) (b n : Nat) (z : Nat → Int) : Prop := Blk w b 3 n (fun i => .int .i64 (z i))
theorem nums_put {w : World} {b n i : Nat} {z : Nat → Int} (h : Nums w b n z) (v : Int) : Nums (w.setCell ⟨b, i, none⟩ (.int .i64 v)) b n (fun j => if j = i then v else z j) := by
  refine blk_congr (blk_put h (.int .i64 v)) (fun j _ => ?_)
  unfold upd
  by_cases c : j = i <;> simp [c]
theorem nums_congr {w : World} {b n : Nat} {y z : Nat → Int} (h : Nums w b n y) (e : ∀ i, i < n → y i = z i) : Nums w b n z := blk_congr h (fun i hi => by rw [e i hi])
theorem nums_at {w : World} {b n i : Nat} {z : Nat → Int} (h : Nums w b n z) (hi : i < n) : w.cell? ⟨b, i, none⟩ = some (.int .i64 (z i)) := blk_at h hi

/-- The marks. -/
def Marks (w : World) (b n : Nat) (T : Nat → Bool) : Prop := Blk w b 4 n (fun i => .bool (T i))
theorem marks_put {w : World} {b n i : Nat} {T : Nat → Bool} (h : Marks w b n T) : Marks (w.setCell ⟨b, i, none⟩ (.bool true)) b n (bmark T i) := by
  refine blk_congr (blk_put h (.bool true)) (fun j _ => ?_)
  unfold upd bmark
  split <;> rfl
theorem marks_at {w : World} {b n i : Nat} {T : Nat → Bool} (h : Marks w b n T) (hi : i < n) : w.cell? ⟨b, i, none⟩ = some (.bool (T i)) := blk_at h hi


/-! ### The kinds that a kind leads to -/
abbrev Sl : Type := Option Addr × Nat × Nat
def slv (x : Sl) : Value := .slice x.1 x.2.1 x.2.2
structure Nx (ks : List Kept) (wB wx : World) (n k : Nat) (nx : Nat → Sl) : Prop where
  blk : Blk wx wB.heap.size 35 n (fun c => slv (nx c))
  row : ∀ c, c < k → fi (names ks) (nm (names ks) c) = c → (nx c).2.1 = (lead ks (nm (names ks) c)).length ∧ Ints wx (nx c).1 (nx c).2.1 (fun i => cls (names ks) (nm (lead ks (nm (names ks) c)) i))
  loc : ∀ c, c < k → fi (names ks) (nm (names ks) c) = c → 0 < (nx c).2.1 → ∀ x, (nx c).1 = some x → x.block ≠ wB.heap.size
  bel : Below wB.heap.size wB wx
theorem nx_start (ks : List Kept) (wB : World) (n : Nat) : Nx ks wB (wB.alloc (.cells (row1 (.slice none 0 0) n) 35 (0, 0))) n 0 (fun _ => (none, 0, 0)) :=
  ⟨blk_new wB (.slice none 0 0) rfl 35 n, fun c hc => absurd hc (Nat.not_lt_zero c), fun c hc => absurd hc (Nat.not_lt_zero c), (Below.refl _ _).alloc (Nat.le_refl _) _⟩
theorem nx_skip {ks : List Kept} {wB wx : World} {n k : Nat} {nx : Nat → Sl} (h : Nx ks wB wx n k nx) (hr : fi (names ks) (nm (names ks) k) ≠ k) : Nx ks wB wx n (k + 1) nx := by
  refine ⟨h.blk, fun c hc hf => ?_, fun c hc hf => ?_, h.bel⟩
  · by_cases e : c = k
    · subst e; exact absurd hf hr
    · exact h.row c (by omega) hf
  · by_cases e : c = k
    · subst e; exact absurd hf hr
    · exact h.loc c (by omega) hf
theorem ints_set {w : World} {a : Option Addr} {len : Nat} {z : Nat → Int} (h : Ints w a len z) (p : Addr) (v : Value) (hne : 0 < len → ∀ x, a = some x → x.block ≠ p.block) : Ints (w.setCell p v) a len z := by
  intro hp
  obtain ⟨b, o, e, hc⟩ := h hp
  refine ⟨b, o, e, fun i hi => ?_⟩
  rw [World.cell?_setCell_other _ _ _ _ (fun c => hne hp _ e (by rw [c]))]
  exact hc i hi
theorem ints_congr {w : World} {a : Option Addr} {len : Nat} {y z : Nat → Int} (h : Ints w a len y) (e : ∀ i, i < len → y i = z i) : Ints w a len z := by
  intro hp
  obtain ⟨b, o, ea, hc⟩ := h hp
  exact ⟨b, o, ea, fun i hi => by rw [hc i hi, e i hi]⟩
theorem nx_take {ks : List Kept} {wB wx wy : World} {n k m bt : Nat} {nx : Nat → Sl} (h : Nx ks wB wx n k nx) (hb : Below wx.heap.size wx wy) (hbt : wx.heap.size ≤ bt) (hm : m = (lead ks (nm (names ks) k)).length)
    (hi : Nums wy bt m (fun i => cls (names ks) (nm (lead ks (nm (names ks) k)) i))) :
    Nx ks wB (wy.setCell ⟨wB.heap.size, k, none⟩ (.slice (some ⟨bt, 0, none⟩) m m)) n (k + 1) (fun c => if c = k then (some ⟨bt, 0, none⟩, m, m) else nx c) := by
  have hlt := blk_in h.blk
  refine ⟨?_, fun c hc hf => ?_, fun c hc hf => ?_, ?_⟩
  · refine blk_congr (blk_put (i := k) (blk_stays h.blk hb) (.slice (some ⟨bt, 0, none⟩) m m)) (fun j _ => ?_)
    unfold upd
    by_cases e : j = k <;> simp [e, slv]
  · by_cases e : c = k
    · subst e
      rw [if_pos rfl]
      refine ⟨hm, ints_set (blk_ints hi) _ _ (fun _ x hx => ?_)⟩
      cases hx; dsimp only; omega
    · rw [if_neg e]
      have hrow := h.row c (by omega) hf
      exact ⟨hrow.1, ints_set (ints_stays hb hrow.2) _ _ (fun hp x hx => h.loc c (by omega) hf hp x hx)⟩
  · by_cases e : c = k
    · subst e
      rw [if_pos rfl]
      intro _ x hx
      cases hx; dsimp only; omega
    · rw [if_neg e]; exact h.loc c (by omega) hf
  · exact (h.bel.trans (hb.mono h.bel.size)).setCell (Nat.le_refl _) _
/-- What the fixed point keeps. -/
structure Fx (ks : List Kept) (roots : List ByteArray) (wC wx : World) (n : Nat) (T : Nat → Bool) : Prop where
  marks : Marks wx wC.heap.size n T
  sound : Sound (names ks) (lead ks) roots T
  rts : RootsTo (names ks) roots T roots.length
  bel : Below wC.heap.size wC wx
theorem fx_mark {ks : List Kept} {roots : List ByteArray} {wC wx : World} {n c i : Nat} {T : Nat → Bool} (h : Fx ks roots wC wx n T) (hn : (names ks).length = n) (hc : c < n) (hT : T c = true) (hi : i < (lead ks (nm (names ks) c)).length)
    (hf : fi (names ks) (nm (lead ks (nm (names ks) c)) i) < n) : Fx ks roots wC (wx.setCell ⟨wC.heap.size, fi (names ks) (nm (lead ks (nm (names ks) c)) i), none⟩ (.bool true)) n (bmark T (fi (names ks) (nm (lead ks (nm (names ks) c)) i))) :=
  ⟨marks_put h.marks, sound_mark h.sound (reach_step (h.sound c (by rw [hn]; exact hc) hT) (nm_mem hi)) (by rw [hn]; exact hf), rootsTo_keep h.rts, h.bel.setCell (Nat.le_refl _) _⟩
/-- What the last loop has gathered. -/
structure Wn (wD wx : World) (T : Nat → Bool) (j : Nat) (wa : Option Addr) (wc : Nat) (J : List Nat) : Prop where
  row : IRow wx wD.heap.size wa wc J
  is : J = (List.range j).filter T
  bel : Below wD.heap.size wD wx
theorem wn_start (wD : World) (T : Nat → Bool) : Wn wD wD T 0 none 0 [] := ⟨irow_nil _ _, rfl, Below.refl _ _⟩
theorem wn_skip {wD wx : World} {T : Nat → Bool} {j : Nat} {wa : Option Addr} {wc : Nat} {J : List Nat} (h : Wn wD wx T j wa wc J) (hT : T j = false) : Wn wD wx T (j + 1) wa wc J :=
  ⟨h.row, by rw [List.range_succ, List.filter_append]; simp [hT]; exact h.is, h.bel⟩
theorem wn_take {wD wx : World} {T : Nat → Bool} {j : Nat} {wa : Option Addr} {wc : Nat} {J : List Nat} (h : Wn wD wx T j wa wc J) (hT : T j = true) (hj : j ≤ 1048576) :
    ∃ wa' wc' w', (Builtin.append_ #[35, 35] 35 #[.slice wa J.length wc, .slice (some ⟨wx.heap.size, 0, none⟩) 1 1]).run Try.prog (wx.alloc (.cells #[.int .i64 (j : Int)] 3 (0, 0))) = .ok (.slice wa' (J.length + 1) wc') w' ∧ Wn wD w' T (j + 1) wa' wc' (J ++ [j]) := by
  have hl : J.length ≤ 1048576 := by
    rw [h.is]
    have h1 := List.length_filter_le T (List.range j)
    rw [List.length_range] at h1
    omega
  obtain ⟨wa', wc', w', e, hrow, hgr⟩ := run_iapp h.row j hl h.bel.size
  refine ⟨wa', wc', w', e, hrow, ?_, ?_⟩
  · rw [List.range_succ, List.filter_append, ← h.is]; simp [hT]
  · have hb2 := h.bel.alloc h.bel.size (.cells #[.int .i64 (j : Int)] 3 (0, 0))
    exact hb2.grown hgr hb2.size (fun k hk => (h.row.lt k hk).1)
def tsTo (ns : List ByteArray) (L : List ByteArray) (i q : Nat) : Int := if q < i then cls ns (nm L q) else 0
theorem tsTo_succ (ns L : List ByteArray) (i q : Nat) : (if q = i then cls ns (nm L i) else tsTo ns L i q) = tsTo ns L (i + 1) q := by
  unfold tsTo
  by_cases c : q = i
  · subst c; rw [if_pos rfl, if_pos (by omega)]
  · rw [if_neg c]
    by_cases d : q < i
    · rw [if_pos d, if_pos (by omega)]
    · rw [if_neg d, if_neg (by omega)]


def ModelEnd (n : Nat) (ks : List Kept) (roots : List ByteArray) (w : World) (e : Ending) (w' : World) : Prop :=
  ∃ (wa : Option Addr) (wc : Nat) (J : List Nat) (T : Nat → Bool), e = .returned (.slice wa J.length wc) ∧ Ints w' wa J.length (fun i => (J.getD i 0 : Nat)) ∧ J = (List.range n).filter T ∧ (∀ j, j < n → (T j = true ↔ Reach (lead ks) roots (nm (names ks) j))) ∧ Below w.heap.size w w'

set_option maxRecDepth 100000 in
set_option maxHeartbeats 8000000 in
theorem model_any (a : Option Addr) (n cap : Nat) (ks : List Kept) (ra : Option Addr) (rlen rcap : Nat) (roots : List ByteArray) (w : World) (hg : Gems w a n ks) (hr : Strs w ra rlen roots) (hn : n ≤ 1048576) (hrl : rlen ≤ 1048576) (hls : ∀ i, i < n → (gk ks i).gem.req.length ≤ 1048576) :
    Calls Try.prog 12 #[.slice a n cap, .slice ra rlen rcap] w fun e w' => ModelEnd n ks roots w e w' := by
  have hm35 := mk35 n hn
  have hm47 := mk47 n hn
  have hm49 := mk49 n hn
  have HG := hide hg
  have HL := hide hg.1
  have HNL := hide (show (names ks).length = n by rw [names_length]; exact hg.1)
  have HRt := hide hr
  have HLS := hide hls
  clear hg hr hls
  generalize hE : ModelEnd n ks roots w = E
  have HE := hide hE
  clear hE
  go_enter Try.func12, Try.ntmps12
  go_wp2
  go_loopg [7] n (fun q t wr => ∃ j : Nat, j + q = n ∧ t = .int .i64 j ∧ Nums wr w.heap.size n (clsTo (names ks) j) ∧ Below w.heap.size w wr)
  case atStart => exact ⟨0, by omega, rfl, nums_congr (blk_new w (.int .i64 0) rfl 3 n) (fun i _ => (clsTo_zero _ i).symm), (Below.refl _ _).alloc (Nat.le_refl _) _⟩
  case round =>
    obtain ⟨j, hj, rfl, hnum, hbel⟩ := hrel
    have HJ := hide hj
    clear hj
    by_cases hjn : j < n
    · -- one kind
      obtain ⟨b, o, rfl, hc⟩ := (unhide HG).2.1 (by omega)
      have cj := (hc j hjn).c0
      rw [← names_nm (by rw [unhide HL]; exact hjn)] at cj
      have HC := hide (fun k (hk : k < n) => show w.cell? ⟨b, o + k * 5, none⟩ = some (.string (nm (names ks) k)) by rw [names_nm (by rw [unhide HL]; exact hk)]; exact (hc k hk).c0)
      have cl0 := nums_at hnum hjn
      have fr0 := blk_fr hnum j
      have HN1 := hide (nums_put (i := j) hnum (j : Int))
      have HB1 := hide (hbel.setCell (p := ⟨w.heap.size, j, none⟩) (Nat.le_refl _) (.int .i64 (j : Int)))
      have HCJ := hide (cell_stays (unhide HB1) cj)
      clear hc hnum hbel cj
      go_wp2
      generalize wr.setCell ⟨w.heap.size, j, none⟩ (.int .i64 (j : Int)) = wa at *
      clear cl0 fr0
      go_loopg [8] j (fun q t wx => ∃ k : Nat, k + q = j ∧ t = .int .i64 k ∧ Hid (∀ e, e < k → nm (names ks) e ≠ nm (names ks) j) ∧ ∃ m, wx = wa.drewN m)
      case atStart => exact ⟨0, by omega, rfl, fun e he => absurd he (Nat.not_lt_zero e), 0, rfl⟩
      case round =>
        obtain ⟨k, hk, rfl, hno, m, rfl⟩ := hrel
        have HK := hide hk
        clear hk
        by_cases hkj : k < j
        · have ck := cell_stays (unhide HB1) (unhide HC k (by omega))
          have cj := unhide HCJ
          have hkn : (k : Int) < (n : Int) := by omega
          have hjn' : (j : Int) < (n : Int) := by omega
          by_cases hst : nm (names ks) k = nm (names ks) j
          · have hfi : fi (names ks) (nm (names ks) j) = k := fi_eq (by rw [unhide HNL]; omega) hst (unhide hno)
            have HR : Hid (∀ w', Nums w' w.heap.size n (fun i => if i = j then (k : Int) else if i = j then (j : Int) else clsTo (names ks) j i) → Nums w' w.heap.size n (clsTo (names ks) (j + 1))) := fun w' h => nums_congr h (fun i _ => by
              rw [clsTo_succ, hfi]
              by_cases c : i = j
              · rw [if_pos c, if_pos c]
              · rw [if_neg c, if_neg c, if_neg c])
            have HN2 := hide (unhide HR _ (nums_put (i := j) (unhide HN1) (k : Int)))
            have HB2 := hide ((unhide HB1).setCell (p := ⟨w.heap.size, j, none⟩) (Nat.le_refl _) (.int .i64 (k : Int)))
            have cl1 := nums_at (unhide HN1) hjn
            have fr1 := blk_fr (unhide HN1) j
            rw [hst] at ck
            have hq := str_refl (nm (names ks) j)
            clear hst hfi HR
            generalize nm (names ks) j = s at *
            go_wp2
            go_quiet (fail)
            go_wp2
            go_roundg (n - (j + 1))
            case measure => have := unhide HJ; omega
            case rel => exact ⟨j + 1, by omega, by go_num, unhide HN2, below_drewN (unhide HB2) _⟩
          · have hno2 := hide (show ∀ e, e < k + 1 → nm (names ks) e ≠ nm (names ks) j from fun e he => by
              by_cases h : e = k
              · subst h; exact hst
              · exact unhide hno e (by omega))
            have hq := str_ne hst
            clear hst
            generalize nm (names ks) k = s at *
            generalize hsj : nm (names ks) j = t at ck cj hq
            clear hsj
            go_wp2
            go_quiet (fail)
            go_wp2
            go_roundg (j - (k + 1))
            case measure => have := unhide HK; omega
            case rel => exact ⟨k + 1, by omega, by go_num, unhide hno2, _, rfl⟩
        · have hkj2 : k = j := by have := unhide HK; omega
          have hfi : fi (names ks) (nm (names ks) j) = j := fi_eq (by rw [unhide HNL]; omega) rfl (by rw [← hkj2]; rw [hkj2] at hno ⊢; exact unhide hno)
          have HN2 : Hid (Nums wa w.heap.size n (clsTo (names ks) (j + 1))) := nums_congr (unhide HN1) (fun i _ => by
              rw [clsTo_succ, hfi])
          clear hfi hkj2
          go_wp2
          go_roundg (n - (j + 1))
          case measure => have := unhide HJ; omega
          case rel => exact ⟨j + 1, by omega, by go_num, unhide HN2, below_drewN (unhide HB1) _⟩
    · have hje : j = n := by have := unhide HJ; omega
      have HCl : Hid (Nums wr w.heap.size n (fun i => (fi (names ks) (nm (names ks) i) : Int))) := by rw [hje] at hnum; exact nums_congr hnum (fun i hi => clsTo_all hi)
      have HBl := hide hbel
      clear hnum hbel hje HJ
      go_wp2
      clear hjn
      rename_i wA0
      generalize hwA : wr = wA at *
      clear hwA
      go_loopg [10] n (fun q t wx => ∃ j : Nat, j + q = n ∧ t = .int .i64 j ∧ Nums wx wA.heap.size n (fun c => (lastAt (names ks) j c : Int)) ∧ Below wA.heap.size wA wx)
      case atStart => exact ⟨0, by omega, rfl, nums_congr (blk_new wA (.int .i64 0) rfl 3 n) (fun i _ => by rw [lastAt_zero]; rfl), (Below.refl _ _).alloc (Nat.le_refl _) _⟩
      case round =>
        obtain ⟨j, hj, rfl, hnum, hbel⟩ := hrel
        have HJ := hide hj
        clear hj
        by_cases hjn : j < n
        · have c1 := nums_at (blk_stays (unhide HCl) hbel) hjn
          have hfn : fi (names ks) (nm (names ks) j) < n := by
            have := fi_self (ns := names ks) (j := j) (by rw [unhide HNL]; exact hjn); omega
          have HN2 : Hid (Nums (wr.setCell ⟨wA.heap.size, fi (names ks) (nm (names ks) j), none⟩ (.int .i64 (j : Int))) wA.heap.size n (fun c => (lastAt (names ks) (j + 1) c : Int))) :=
            nums_congr (nums_put (i := fi (names ks) (nm (names ks) j)) hnum (j : Int)) (fun c hc => by
              rw [lastAt_succ (by rw [unhide HNL]; exact hjn) (by rw [unhide HNL]; exact hc)]
              by_cases e : c = fi (names ks) (nm (names ks) j)
              · rw [if_pos e, if_pos e]
              · rw [if_neg e, if_neg e])
          have HB2 := hide (hbel.setCell (p := ⟨wA.heap.size, fi (names ks) (nm (names ks) j), none⟩) (Nat.le_refl _) (.int .i64 (j : Int)))
          have c2 := nums_at hnum hfn
          have f2 := blk_fr hnum (fi (names ks) (nm (names ks) j))
          clear hnum hbel
          generalize fi (names ks) (nm (names ks) j) = p at *
          go_wp2
          go_roundg (n - (j + 1))
          case measure => have := unhide HJ; omega
          case rel => exact ⟨j + 1, by omega, by go_num, unhide HN2, unhide HB2⟩
        · have hje : j = n := by have := unhide HJ; omega
          have HLa : Hid (Nums wr wA.heap.size n (fun c => (lastAt (names ks) n c : Int))) := by rw [hje] at hnum; exact hnum
          have HB2 := hide ((unhide HBl).trans (hbel.mono (unhide HBl).size))
          have HCl2 := hide (blk_stays (unhide HCl) hbel)
          clear hnum hbel hje HJ
          go_wp2
          clear hjn
          generalize hwB : wr = wB at *
          clear hwB
          go_loopg [12] n (fun q t wx => ∃ (c : Nat) (nx : Nat → Sl), c + q = n ∧ t = .int .i64 c ∧ Nx ks wB wx n c nx)
          case atStart => exact ⟨0, _, by omega, rfl, nx_start ks wB n⟩
          case round =>
            obtain ⟨c, nx, hcq, rfl, hnx⟩ := hrel
            have HCQ := hide hcq
            clear hcq
            by_cases hcn : c < n
            · have hns : c < (names ks).length := by rw [unhide HNL]; exact hcn
              have c1 := nums_at (blk_stays (unhide HCl2) hnx.bel) hcn
              by_cases hrep : fi (names ks) (nm (names ks) c) = c
              · obtain ⟨b, o, rfl, hgc⟩ := (unhide HG).2.1 (by omega)
                have hbw := (unhide HB2).trans (hnx.bel.mono (unhide HB2).size)
                have c2 := nums_at (blk_stays (unhide HLa) hnx.bel) hcn
                have hla := lastAt_all hns hrep (fun j => (Go.Proofs.Qxb6602477a.gk ks j).gem.req)
                rw [unhide HNL] at hla
                obtain ⟨hq, hreq⟩ := hla
                have c3 : wr.cell? ⟨b, o + lastAt (names ks) n c * 5 + 3, none⟩ = _ := (gemAt_stays hbw (hgc _ hq)).c3
                have hok := ok_stays hbw ((unhide HG).2.2 _ (gk_mem (ks := ks) (i := lastAt (names ks) n c) (by rw [unhide HL]; exact hq)))
                have hml := unhide HLS _ hq
                have HNx := hide hnx
                have HTk := hide (fun wy bt m hb hbt hm hi => nx_take (wy := wy) (bt := bt) (m := m) hnx hb hbt hm hi)
                have HBW := hide hbw
                have hreq' : (Go.Proofs.Qxb6602477a.gk ks (lastAt (names ks) n c)).gem.req = lead ks (nm (names ks) c) := hreq
                unfold Kept.ok at hok
                rw [hreq'] at c3 hok hml
                rw [hrep] at c1
                have hbt : w.heap.size < wr.heap.size := Nat.lt_of_lt_of_le (blk_in (unhide HCl2)) hnx.bel.size
                have cb3 := blk_at hnx.blk hcn
                have fb3 := blk_fr hnx.blk c
                clear hgc hreq hreq' hnx hbw hrep
                generalize lastAt (names ks) n c = q at *
                have HM := hide (show (lead ks (nm (names ks) c)).length = (lead ks (nm (names ks) c)).length from rfl)
                generalize hxa : (Go.Proofs.Qxb6602477a.gk ks q).at? = xa at *
                generalize hxc : (Go.Proofs.Qxb6602477a.gk ks q).cap = xc at *
                clear hxa hxc
                generalize hLd : lead ks (nm (names ks) c) = Ld at *
                clear hLd
                generalize hm : Ld.length = m at c3 hok hml HM
                have hmm := mk35 m hml
                have HOk := hide hok
                have HMm := hide hm
                clear hok hm
                have HBlk := hide (unhide HNx).blk
                clear cb3 fb3
                go_wp2
                clear c1 c2 c3
                generalize hwc : wr = wc at *
                clear hwc
                go_loopg [15] m (fun r t wy => ∃ i : Nat, i + r = m ∧ t = .int .i64 i ∧ Nums wy wc.heap.size m (tsTo (names ks) Ld i) ∧ Below wc.heap.size wc wy)
                case atStart => exact ⟨0, by omega, rfl, nums_congr (blk_new wc (.int .i64 0) rfl 3 m) (fun i _ => by unfold tsTo; rw [if_neg (by omega)]), (Below.refl _ _).alloc (Nat.le_refl _) _⟩
                case round =>
                  obtain ⟨i, hi, rfl, hnum, hbel⟩ := hrel
                  have HI := hide hi
                  clear hi
                  by_cases him : i < m
                  · obtain ⟨rb, ro, rfl, hrc⟩ := (unhide HOk).2 (by omega)
                    have ci := cell_stays hbel (hrc i him)
                    have hbw := (unhide HBW).trans (hbel.mono (unhide HBW).size)
                    have hbB := (unhide HNx).bel.trans (hbel.mono (unhide HNx).bel.size)
                    have HCO := hide (classOf_any (some ⟨b, o, none⟩) n cap ks (some ⟨w.heap.size, 0, none⟩) n (nm Ld i) wr (gems_stays hbw (unhide HG)) (blk_ints (blk_stays (unhide HCl2) hbB)) hn)
                    have HN2 : Hid (Nums (wr.setCell ⟨wc.heap.size, i, none⟩ (.int .i64 (cls (names ks) (nm Ld i)))) wc.heap.size m (tsTo (names ks) Ld (i + 1))) :=
                      nums_congr (nums_put (i := i) hnum (cls (names ks) (nm Ld i))) (fun q _ => tsTo_succ (names ks) Ld i q)
                    have HB3 := hide (hbel.setCell (p := ⟨wc.heap.size, i, none⟩) (Nat.le_refl _) (.int .i64 (cls (names ks) (nm Ld i))))
                    have ct := nums_at hnum him
                    have ft := blk_fr hnum i
                    clear hrc hnum hbel hbw hbB
                    generalize nm Ld i = s at *
                    generalize cls (names ks) s = z at *
                    generalize tsTo (names ks) Ld i i = z0 at *
                    go_wp2_with fail
                    refine (unhide HCO).mono ?_
                    rintro e w9 ⟨rfl, rfl⟩
                    go_wp2
                    go_roundg (m - (i + 1))
                    case measure => have := unhide HI; omega
                    case rel => exact ⟨i + 1, by omega, by go_num, unhide HN2, unhide HB3⟩
                  · have hie : i = m := by have := unhide HI; omega
                    have HTk2 := hide (unhide HTk wr wc.heap.size m hbel (Nat.le_refl _) (unhide HMm).symm (nums_congr hnum (fun q hq => by unfold tsTo; rw [if_pos (by omega)])))
                    have hblk := blk_stays (unhide HBlk) hbel
                    have cb3 := blk_at hblk hcn
                    have fb3 := blk_fr hblk c
                    clear hnum hbel hie hblk HI
                    generalize slv (nx c) = v0 at cb3
                    go_wp2
                    go_roundg (n - (c + 1))
                    case measure => have := unhide HCQ; omega
                    case rel => exact ⟨c + 1, _, by omega, by go_num, unhide HTk2⟩
              · have hlt : fi (names ks) (nm (names ks) c) < c := by have := fi_self hns; omega
                have HNx := hide (nx_skip hnx hrep)
                clear hnx hrep
                generalize fi (names ks) (nm (names ks) c) = p at *
                go_wp2
                go_roundg (n - (c + 1))
                case measure => have := unhide HCQ; omega
                case rel => exact ⟨c + 1, nx, by omega, by go_num, unhide HNx⟩
            · have hce : c = n := by have := unhide HCQ; omega
              have HNx := hide (show Nx ks wB wr n n nx by rw [hce] at hnx; exact hnx)
              clear hnx hce HCQ
              go_wp2
              clear hcn
              generalize hwC : wr = wC at *
              clear hwC
              have HWC := hide ((unhide HB2).trans ((unhide HNx).bel.mono (unhide HB2).size))
              have HCO := hide (fun s wx (hb : Below wC.heap.size wC wx) => classOf_any a n cap ks (some ⟨w.heap.size, 0, none⟩) n s wx (gems_stays hb (gems_stays (unhide HWC) (unhide HG))) (ints_stays hb (blk_ints (blk_stays (unhide HCl2) (unhide HNx).bel))) hn)
              have HCl3 := hide (blk_stays (unhide HCl2) (unhide HNx).bel)
              have HRt2 := hide (strs_stays (unhide HWC) (unhide HRt))
              go_loopg [17] rlen (fun r t wx => ∃ (k : Nat) (T : Nat → Bool), k + r = rlen ∧ t = .int .i64 k ∧ Marks wx wC.heap.size n T ∧ Sound (names ks) (lead ks) roots T ∧ RootsTo (names ks) roots T k ∧ Below wC.heap.size wC wx)
              case atStart => exact ⟨0, fun _ => false, by omega, rfl, blk_new wC (.bool false) rfl 4 n, sound_none, fun i hi => absurd hi (Nat.not_lt_zero i), (Below.refl _ _).alloc (Nat.le_refl _) _⟩
              case round =>
                obtain ⟨k, T, hk, rfl, hmk, hso, hrt, hbel⟩ := hrel
                have HK := hide hk
                clear hk
                by_cases hkr : k < rlen
                · obtain ⟨rb, ro, rfl, hrc⟩ := (unhide HRt2).2 (by omega)
                  have ck := cell_stays hbel (hrc k hkr)
                  have HC := hide (unhide HCO (nm roots k) wr hbel)
                  have hroot : nm roots k ∈ roots := nm_mem (by rw [(unhide HRt2).1]; exact hkr)
                  by_cases hneg : cls (names ks) (nm roots k) < 0
                  · have HR := hide (show Marks wr wC.heap.size n T ∧ Sound (names ks) (lead ks) roots T ∧ RootsTo (names ks) roots T (k + 1) ∧ Below wC.heap.size wC wr from ⟨hmk, hso, rootsTo_skip hrt (cls_neg hneg), hbel⟩)
                    clear hmk hso hrt hbel hrc hroot
                    generalize cls (names ks) (nm roots k) = z at *
                    generalize nm roots k = s at *
                    go_wp2_with fail
                    refine (unhide HC).mono ?_
                    rintro e w9 ⟨rfl, rfl⟩
                    go_wp2
                    go_roundg (rlen - (k + 1))
                    case measure => have := unhide HK; omega
                    case rel => exact ⟨k + 1, T, by omega, by go_num, (unhide HR).1, (unhide HR).2.1, (unhide HR).2.2.1, (unhide HR).2.2.2⟩
                  · obtain ⟨hf, he⟩ := cls_pos (Int.not_lt.1 hneg)
                    have hfn : fi (names ks) (nm roots k) < n := by rw [unhide HNL] at hf; exact hf
                    have HR := hide (show Marks (wr.setCell ⟨wC.heap.size, fi (names ks) (nm roots k), none⟩ (.bool true)) wC.heap.size n (bmark T (fi (names ks) (nm roots k))) ∧ Sound (names ks) (lead ks) roots (bmark T (fi (names ks) (nm roots k))) ∧ RootsTo (names ks) roots (bmark T (fi (names ks) (nm roots k))) (k + 1) ∧ Below wC.heap.size wC (wr.setCell ⟨wC.heap.size, fi (names ks) (nm roots k), none⟩ (.bool true)) from
                      ⟨marks_put hmk, sound_mark hso (reach_root hroot) hf, rootsTo_mark hrt, hbel.setCell (Nat.le_refl _) _⟩)
                    have cm := marks_at hmk hfn
                    have fm := blk_fr hmk (fi (names ks) (nm roots k))
                    rw [he] at HC
                    clear hmk hso hrt hbel hrc hroot hneg he hf
                    generalize fi (names ks) (nm roots k) = p at *
                    generalize nm roots k = s at *
                    generalize T p = t0 at cm
                    go_wp2_with fail
                    refine (unhide HC).mono ?_
                    rintro e w9 ⟨rfl, rfl⟩
                    go_wp2
                    go_roundg (rlen - (k + 1))
                    case measure => have := unhide HK; omega
                    case rel => exact ⟨k + 1, _, by omega, by go_num, (unhide HR).1, (unhide HR).2.1, (unhide HR).2.2.1, (unhide HR).2.2.2⟩
                · have hke : k = rlen := by have := unhide HK; omega
                  have hrr : roots.length = rlen := (unhide HRt2).1
                  have HF : Hid (Fx ks roots wC wr n T) := ⟨hmk, hso, by rw [hrr, ← hke]; exact hrt, hbel⟩
                  have HNr := hide (unhide HNx).row
                  have HNb := hide (unhide HNx).blk
                  clear hmk hso hrt hbel hke hrr HK HCO
                  go_wp2
                  clear hkr
                  go_loopg [19] (open_ n T + 1) (fun r v wx => ∃ (T : Nat → Bool) (ch : Bool), v = .bool ch ∧ r = (if ch then open_ n T + 1 else 0) ∧ (ch = false → ClosedTo (names ks) (lead ks) T n) ∧ Fx ks roots wC wx n T)
                  case atStart => exact ⟨T, true, rfl, rfl, (fun h => by cases h), unhide HF⟩
                  case round =>
                    clear HF
                    obtain ⟨T, ch, rfl, hg, hcl, hfx⟩ := hrel
                    cases ch with
                    | false =>
                      have HCt := hide (hcl rfl)
                      have HF := hide hfx
                      clear hcl hfx hg
                      go_wp2
                      generalize hwD : wr = wD at *
                      clear hwD
                      have HMk := hide (unhide HF).marks
                      have HFix : Hid (∀ j, j < n → (T (fi (names ks) (nm (names ks) j)) = true ↔ Reach (lead ks) roots (nm (names ks) j))) := fun j hj =>
                        fixed (unhide HF).sound (unhide HF).rts (by rw [unhide HNL]; exact unhide HCt) (fun s hs => leads_none hs) _ (Nat.lt_of_le_of_lt (fi_self (by rw [unhide HNL]; exact hj)) (by rw [unhide HNL]; exact hj))
                      have HBD := hide ((unhide HWC).trans ((unhide HF).bel.mono (unhide HWC).size))
                      have HCl4 := hide (blk_stays (unhide HCl3) (unhide HF).bel)
                      go_loopg [23, 24] n (fun r v t wx => ∃ (j : Nat) (wa : Option Addr) (wc : Nat) (J : List Nat), j + r = n ∧ t = .int .i64 j ∧ v = .slice wa J.length wc ∧ Wn wD wx (fun j => T (fi (names ks) (nm (names ks) j))) j wa wc J)
                      case atStart => exact ⟨0, none, 0, [], by omega, rfl, rfl, wn_start wD _⟩
                      case round =>
                        obtain ⟨j, wa, wc, J, hjq, rfl, rfl, hwn⟩ := hrel
                        have HJQ := hide hjq
                        clear hjq
                        by_cases hjn : j < n
                        · have c1 : wr.cell? ⟨w.heap.size, j, none⟩ = some (.int .i64 (fi (names ks) (nm (names ks) j) : Int)) := blk_at (blk_stays (unhide HCl4) hwn.bel) hjn
                          have hfn : fi (names ks) (nm (names ks) j) < n := by
                            have := fi_self (ns := names ks) (j := j) (by rw [unhide HNL]; exact hjn); omega
                          have c2 := marks_at (blk_stays (unhide HMk) hwn.bel) hfn
                          cases hT : T (fi (names ks) (nm (names ks) j)) with
                          | false =>
                            rw [hT] at c2
                            have HR := hide (wn_skip hwn hT)
                            clear hwn hT
                            generalize hp : fi (names ks) (nm (names ks) j) = p at c1 c2 hfn
                            clear hp
                            go_wp2
                            go_roundg (n - (j + 1))
                            case measure => have := unhide HJQ; omega
                            case rel => exact ⟨j + 1, wa, wc, J, by omega, by go_num, rfl, unhide HR⟩
                          | true =>
                            rw [hT] at c2
                            obtain ⟨wa', wc', w', e5, hR⟩ := wn_take hwn hT (by omega)
                            have HR := hide hR
                            have E5 := hide e5
                            have HLn := hide (show (J ++ [j]).length = J.length + 1 by simp)
                            clear hwn hT hR e5
                            generalize hp : fi (names ks) (nm (names ks) j) = p at c1 c2 hfn
                            clear hp
                            go_wp2_with (at_builtin; refine wpList_append_run rfl (.tmp 195) (.tmp 197) 35 rfl _ _ _ rfl rfl (unhide E5) ?_)
                            go_roundg (n - (j + 1))
                            case measure => have := unhide HJQ; omega
                            case rel => exact ⟨j + 1, wa', wc', J ++ [j], by omega, by go_num, by rw [unhide HLn], unhide HR⟩
                        · have hje : j = n := by have := unhide HJQ; omega
                          have HEnd := hide (show ModelEnd n ks roots w (.returned (.slice wa J.length wc)) wr from
                            ⟨wa, wc, J, _, rfl, irow_ints hwn.row, by rw [← hje]; exact hwn.is, unhide HFix, (unhide HBD).trans (hwn.bel.mono (unhide HBD).size)⟩)
                          clear hwn hje
                          go_wp2
                          rw [← unhide HE]
                          exact unhide HEnd
                    | true =>
                      have HGk := hide hg
                      have HF := hide hfx
                      clear hcl hfx hg
                      go_wp2
                      go_loopg [19, 20] n (fun r v t wx => ∃ (c : Nat) (T' : Nat → Bool) (ch' : Bool), c + r = n ∧ t = .int .i64 c ∧ v = .bool ch' ∧ Pass n T T' ch' (ClosedTo (names ks) (lead ks) T c) ∧ Fx ks roots wC wx n T')
                      case atStart => exact ⟨0, T, false, by omega, rfl, rfl, .inr ⟨rfl, rfl, fun c hc => absurd hc (Nat.not_lt_zero c)⟩, unhide HF⟩
                      case round =>
                        clear HF
                        obtain ⟨c, T', ch', hcq, rfl, rfl, hpass, hfx⟩ := hrel
                        have HCQ := hide hcq
                        clear hcq
                        by_cases hcn : c < n
                        · have hns : c < (names ks).length := by rw [unhide HNL]; exact hcn
                          have c1 : wr.cell? ⟨w.heap.size, c, none⟩ = some (.int .i64 (fi (names ks) (nm (names ks) c) : Int)) := blk_at (blk_stays (unhide HCl3) hfx.bel) hcn
                          have c2 := marks_at hfx.marks hcn
                          by_cases hrep : fi (names ks) (nm (names ks) c) = c
                          · rw [hrep] at c1
                            cases hT : T' c with
                            | false =>
                              rw [hT] at c2
                              have HR := hide (show Pass n T T' ch' (ClosedTo (names ks) (lead ks) T (c + 1)) ∧ Fx ks roots wC wr n T' from ⟨by
                                rcases hpass with h | ⟨h1, h2, h3⟩
                                · exact .inl h
                                · exact .inr ⟨h1, h2, closedTo_skip h3 (by rw [← h2]; rintro ⟨_, hh⟩; rw [hT] at hh; cases hh)⟩, hfx⟩)
                              clear hpass hfx hrep hT
                              go_wp2
                              go_roundg (n - (c + 1))
                              case measure => have := unhide HCQ; omega
                              case rel => exact ⟨c + 1, T', ch', by omega, by go_num, rfl, (unhide HR).1, (unhide HR).2⟩
                            | true =>
                              rw [hT] at c2
                              have hrow := unhide HNr c hcn hrep
                              have cb : wr.cell? ⟨wB.heap.size, c, none⟩ = some (slv (nx c)) := blk_at (blk_stays (unhide HNb) hfx.bel) hcn
                              have HCb := hide (fun wx (hb : Below wC.heap.size wC wx) => blk_at (blk_stays (unhide HNb) hb) hcn)
                              unfold slv at cb HCb
                              have HRow := hide hrow
                              have HPs := hide hpass
                              have HF := hide hfx
                              have hnl : (nx c).2.1 ≤ 1048576 := by
                                have h1 := lastAt_all hns hrep (fun j => (Go.Proofs.Qxb6602477a.gk ks j).gem.req)
                                rw [unhide HNL] at h1
                                have h2 := unhide HLS _ h1.1
                                have h3 : (Go.Proofs.Qxb6602477a.gk ks (lastAt (names ks) n c)).gem.req = lead ks (nm (names ks) c) := h1.2
                                rw [hrow.1, ← h3]; exact h2
                              have HT := hide hT
                              clear hrow hpass hfx hT
                              generalize hna : (nx c).1 = na at *
                              generalize hnc : (nx c).2.2 = nc at *
                              generalize hnl2 : (nx c).2.1 = nl at *
                              clear hna hnc hnl2
                              go_wp2
                              clear c1 c2 cb
                              go_loopg [19, 21] nl (fun r v t wx => ∃ (i : Nat) (T2 : Nat → Bool) (ch2 : Bool), i + r = nl ∧ t = .int .i64 i ∧ v = .bool ch2 ∧ T2 c = true ∧ Pass n T T2 ch2 (ClosedTo (names ks) (lead ks) T c ∧ ClosedAt (names ks) (lead ks) T c i) ∧ Fx ks roots wC wx n T2)
                              case atStart => exact ⟨0, T', ch', by omega, rfl, rfl, unhide HT, pass_mono (unhide HPs) (fun h => ⟨h, closedAt_zero T c⟩), unhide HF⟩
                              case round =>
                                clear HF HT HPs
                                obtain ⟨i, T2, ch2, hiq, rfl, rfl, hTc, hpass, hfx⟩ := hrel
                                have HIQ := hide hiq
                                have hll := (unhide HRow).1
                                have cb : wr.cell? ⟨wB.heap.size, c, none⟩ = some (.slice na nl nc) := unhide HCb wr hfx.bel
                                clear hiq
                                by_cases hin : i < nl
                                · obtain ⟨tb, tO, rfl, htc⟩ := (unhide HRow).2 (by omega)
                                  have ci : wr.cell? ⟨tb, tO + i, none⟩ = some (.int .i64 (cls (names ks) (nm (lead ks (nm (names ks) c)) i))) := cell_stays hfx.bel (htc i hin)
                                  have hil : i < (lead ks (nm (names ks) c)).length := by omega
                                  clear htc
                                  by_cases hneg : cls (names ks) (nm (lead ks (nm (names ks) c)) i) < 0
                                  · have HR := hide (show T2 c = true ∧ Pass n T T2 ch2 (ClosedTo (names ks) (lead ks) T c ∧ ClosedAt (names ks) (lead ks) T c (i + 1)) ∧ Fx ks roots wC wr n T2 from
                                      ⟨hTc, pass_mono hpass (fun h => ⟨h.1, closedAt_succ h.2 (fun hf => absurd hf (cls_neg hneg))⟩), hfx⟩)
                                    clear hTc hpass hfx hil hll
                                    generalize cls (names ks) (nm (lead ks (nm (names ks) c)) i) = z at *
                                    go_wp2
                                    go_roundg (nl - (i + 1))
                                    case measure => have := unhide HIQ; omega
                                    case rel => exact ⟨i + 1, T2, ch2, by omega, by go_num, rfl, (unhide HR).1, (unhide HR).2.1, (unhide HR).2.2⟩
                                  · obtain ⟨hf, he⟩ := cls_pos (Int.not_lt.1 hneg)
                                    have hfn : fi (names ks) (nm (lead ks (nm (names ks) c)) i) < n := by rw [unhide HNL] at hf; exact hf
                                    have cm := marks_at hfx.marks hfn
                                    rw [he] at ci
                                    cases hTp : T2 (fi (names ks) (nm (lead ks (nm (names ks) c)) i)) with
                                    | true =>
                                      rw [hTp] at cm
                                      have HR := hide (show T2 c = true ∧ Pass n T T2 ch2 (ClosedTo (names ks) (lead ks) T c ∧ ClosedAt (names ks) (lead ks) T c (i + 1)) ∧ Fx ks roots wC wr n T2 from
                                        ⟨hTc, by
                                          rcases hpass with h | ⟨h1, h2, h3⟩
                                          · exact .inl h
                                          · exact .inr ⟨h1, h2, h3.1, closedAt_succ h3.2 (fun _ => by rw [← h2]; exact hTp)⟩, hfx⟩)
                                      clear hTc hpass hfx hil hll hneg he hf hTp
                                      generalize fi (names ks) (nm (lead ks (nm (names ks) c)) i) = p at *
                                      go_wp2
                                      go_roundg (nl - (i + 1))
                                      case measure => have := unhide HIQ; omega
                                      case rel => exact ⟨i + 1, T2, ch2, by omega, by go_num, rfl, (unhide HR).1, (unhide HR).2.1, (unhide HR).2.2⟩
                                    | false =>
                                      rw [hTp] at cm
                                      have fm := blk_fr hfx.marks (fi (names ks) (nm (lead ks (nm (names ks) c)) i))
                                      have HR := hide (show bmark T2 (fi (names ks) (nm (lead ks (nm (names ks) c)) i)) c = true ∧ Pass n T (bmark T2 (fi (names ks) (nm (lead ks (nm (names ks) c)) i))) true (ClosedTo (names ks) (lead ks) T c ∧ ClosedAt (names ks) (lead ks) T c (i + 1)) ∧ Fx ks roots wC (wr.setCell ⟨wC.heap.size, fi (names ks) (nm (lead ks (nm (names ks) c)) i), none⟩ (.bool true)) n (bmark T2 (fi (names ks) (nm (lead ks (nm (names ks) c)) i))) from
                                        ⟨bmark_old hTc, pass_mark hpass hfn hTp, fx_mark hfx (unhide HNL) hcn hTc hil hfn⟩)
                                      clear hTc hpass hfx hil hll hneg he hf hTp
                                      generalize fi (names ks) (nm (lead ks (nm (names ks) c)) i) = p at *
                                      go_wp2
                                      go_roundg (nl - (i + 1))
                                      case measure => have := unhide HIQ; omega
                                      case rel => exact ⟨i + 1, _, true, by omega, by go_num, rfl, (unhide HR).1, (unhide HR).2.1, (unhide HR).2.2⟩
                                · have hie : i = nl := by have := unhide HIQ; omega
                                  have HR := hide (show Pass n T T2 ch2 (ClosedTo (names ks) (lead ks) T (c + 1)) ∧ Fx ks roots wC wr n T2 from
                                    ⟨pass_mono hpass (fun h => closedTo_take h.1 (by rw [hie, hll] at h; exact h.2)), hfx⟩)
                                  clear hTc hpass hfx hll hie
                                  go_wp2
                                  go_roundg (n - (c + 1))
                                  case measure => have := unhide HCQ; omega
                                  case rel => exact ⟨c + 1, T2, ch2, by omega, by go_num, rfl, (unhide HR).1, (unhide HR).2⟩
                          · have hlt : fi (names ks) (nm (names ks) c) < c := by have := fi_self hns; omega
                            have HR := hide (show Pass n T T' ch' (ClosedTo (names ks) (lead ks) T (c + 1)) ∧ Fx ks roots wC wr n T' from ⟨pass_mono hpass (fun h => closedTo_skip h (fun hh => hrep hh.1)), hfx⟩)
                            clear hpass hfx hrep c2
                            generalize fi (names ks) (nm (names ks) c) = p at *
                            go_wp2
                            go_roundg (n - (c + 1))
                            case measure => have := unhide HCQ; omega
                            case rel => exact ⟨c + 1, T', ch', by omega, by go_num, rfl, (unhide HR).1, (unhide HR).2⟩
                        · have hce : c = n := by have := unhide HCQ; omega
                          have HR := hide (show Pass n T T' ch' (ClosedTo (names ks) (lead ks) T n) ∧ Fx ks roots wC wr n T' from ⟨by rw [hce] at hpass; exact hpass, hfx⟩)
                          clear hpass hfx hce
                          go_wp2
                          go_roundg (if ch' then open_ n T' + 1 else 0)
                          case measure =>
                            have hg := unhide HGk
                            simp at hg
                            rcases (unhide HR).1 with ⟨h1, h2⟩ | ⟨h1, _⟩
                            · rw [h1, if_pos rfl]; omega
                            · rw [h1]; simp; omega
                          case rel =>
                            refine ⟨T', ch', rfl, rfl, fun hch => ?_, (unhide HR).2⟩
                            rcases (unhide HR).1 with ⟨h1, _⟩ | ⟨_, h2, h3⟩
                            · rw [h1] at hch; cases hch
                            · rw [h2]; exact h3
end Go.Proofs.Qxb6602477a
