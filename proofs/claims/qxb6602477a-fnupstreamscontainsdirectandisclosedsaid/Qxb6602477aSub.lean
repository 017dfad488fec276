import Derived.Test.Qxb6602477aSeq
namespace Go.Proofs.Qxb6602477a
open Go.ChangeShapes Go.WideShapes Go.ChangeAt Go.RowKit

/-- The places J, ascending, below n2. -/
structure Asc (n n2 : Nat) (J : Nat → Nat) : Prop where
  lt : ∀ k, k < n → J k < n2
  inc : ∀ k, k + 1 < n → J k < J (k + 1)
def TrueEnd (w : World) (e : Ending) (w' : World) : Prop := e = .returned (.bool true) ∧ Below w.heap.size w w'

set_option maxRecDepth 100000 in
set_option maxHeartbeats 4000000 in
theorem whole_any (a : Option Addr) (len cap : Nat) (L : List Kept) (a2 : Option Addr) (len2 cap2 : Nat) (ks : List Kept) (J : Nat → Nat) (w : World) (hL : Gems w a len L) (hg : Gems w a2 len2 ks) (hl : len ≤ 1048576) (hl2 : len2 ≤ 1048576)
    (hJ : Asc len len2 J) (hs : ∀ k, k < len → SameGem (gk ks (J k)) (gk L k)) (hrl : ∀ i, i < len2 → (gk ks i).gem.req.length ≤ 1048576) :
    Calls Try.prog 16 #[.slice a len cap, .slice a2 len2 cap2] w fun e w' => TrueEnd w e w' := by
  have HLs := hide hL
  have HG := hide hg
  have HJ := hide hJ
  have HSg := hide hs
  have HRl := hide hrl
  have HB0 := hide (Below.refl w.heap.size w)
  clear hL hg hJ hs hrl
  go_enter Try.func16, Try.ntmps16
  go_wp2
  go_loopg [5, 6] len (fun q t u wr => ∃ k j : Nat, k + q = len ∧ u = .int .i64 k ∧ t = .int .i64 j ∧ Hid (k < len → j ≤ J k) ∧ Below w.heap.size w wr)
  case atStart => exact ⟨0, 0, by omega, rfl, rfl, fun _ => Nat.zero_le _, unhide HB0⟩
  case round =>
    obtain ⟨k, j, hk, rfl, rfl, HJk, hbr⟩ := hrel
    have HK := hide hk
    have HBr := hide hbr
    clear hk hbr
    by_cases hkl : k < len
    · have hJl := (unhide HJ).lt k hkl
      have hjJ := unhide HJk hkl
      obtain ⟨b1, o1, rfl, hc1⟩ := (unhide HLs).2.1 (by omega)
      obtain ⟨b2, o2, rfl, hc2⟩ := (unhide HG).2.1 (by omega)
      have HC2 := hide hc2
      have hU := hc1 k hkl
      have HO1 := hide ((unhide HLs).2.2 _ (gk_mem (ks := L) (i := k) (by rw [(unhide HLs).1]; exact hkl)))
      have HO2 : Hid (∀ i, i < len2 → (Go.Proofs.Qxb6602477a.gk ks i).ok w) := fun i hi => (unhide HG).2.2 _ (gk_mem (ks := ks) (i := i) (by rw [(unhide HG).1]; exact hi))
      have HSk := hide (unhide HSg k hkl)
      have HInc := hide ((unhide HJ).inc k)
      have HL1 : Hid ((Go.Proofs.Qxb6602477a.gk L k).gem.req.length ≤ 1048576) := by
        have h := unhide HRl _ hJl
        rw [← (unhide HSk).1] at h
        exact h
      have HJJ := hide hjJ
      generalize hJk : J k = p at *
      clear hJk HJk hjJ
      have HPl := hide hJl
      have hkl' : (k : Int) < (len : Int) := by omega
      clear hc1 hc2 hJl
      generalize Go.Proofs.Qxb6602477a.gk L k = G1 at *
      go_wp2
      go_loopg [5] (p - j) (fun q t wx => ∃ i : Nat, i + q = p ∧ t = .int .i64 i ∧ Below w.heap.size w wx)
      case atStart => exact ⟨j, by have := unhide HJJ; omega, rfl, unhide HBr⟩
      case round =>
        obtain ⟨i, hi, rfl, hbx⟩ := hrel
        have HI := hide hi
        have HBx := hide hbx
        clear hi hbx
        have hip : i ≤ p := by have := unhide HI; omega
        have hil : (i : Int) < (len2 : Int) := by have := unhide HPl; omega
        have hG := unhide HC2 i (by omega)
        have HOi := hide (unhide HO2 i (by omega))
        have HLi := hide (unhide HRl i (by omega))
        have HIf : Hid (i = p → SameGem (Go.Proofs.Qxb6602477a.gk ks i) G1) := fun h => by rw [h]; exact unhide HSk
        generalize Go.Proofs.Qxb6602477a.gk ks i = G2 at *
        have H13 : Hid (∀ w1, Below w.heap.size w w1 → Calls Try.prog 13 #[G1.val, G2.val] w1 fun e w' => BoolEndB (SameGem G2 G1) w1 e w') := fun w1 hb => sameGem_any G1 G2 w1 (ok_stays hb (unhide HO1)) (ok_stays hb (unhide HOi)) (unhide HL1) (unhide HLi)
        clear HOi HLi HO1 HL1
        obtain ⟨⟨n1, v1, s1, r1, l1⟩, aa1, c1⟩ := G1
        obtain ⟨⟨n2, v2, s2, r2, l2⟩, aa2, c2⟩ := G2
        obtain ⟨u0, u1, u2, u3, u4⟩ := hU
        obtain ⟨g0, g1, g2, g3, g4⟩ := hG
        unfold Kept.val at H13
        dsimp only at u0 u1 u2 u3 u4 g0 g1 g2 g3 g4 H13
        generalize r1.length = rl1 at *
        generalize r2.length = rl2 at *
        have HS : Hid (∀ w1, Below w.heap.size w w1 → 
            w1.cell? ⟨b1, o1 + k * 5, none⟩ = some (.string n1) ∧ w1.cell? ⟨b1, o1 + k * 5 + 1, none⟩ = some (.string v1) ∧ w1.cell? ⟨b1, o1 + k * 5 + 1 + 1, none⟩ = some (.string s1) ∧ w1.cell? ⟨b1, o1 + k * 5 + 1 + 1 + 1, none⟩ = some (.slice aa1 rl1 c1) ∧ w1.cell? ⟨b1, o1 + k * 5 + 1 + 1 + 1 + 1, none⟩ = some (.int .i64 l1) ∧
            w1.cell? ⟨b2, o2 + i * 5, none⟩ = some (.string n2) ∧ w1.cell? ⟨b2, o2 + i * 5 + 1, none⟩ = some (.string v2) ∧ w1.cell? ⟨b2, o2 + i * 5 + 1 + 1, none⟩ = some (.string s2) ∧ w1.cell? ⟨b2, o2 + i * 5 + 1 + 1 + 1, none⟩ = some (.slice aa2 rl2 c2) ∧ w1.cell? ⟨b2, o2 + i * 5 + 1 + 1 + 1 + 1, none⟩ = some (.int .i64 l2) ∧ Below w.heap.size w w1) :=
          fun w1 hb => ⟨cell_stays hb u0, cell_stays hb u1, cell_stays hb u2, cell_stays hb u3, cell_stays hb u4, cell_stays hb g0, cell_stays hb g1, cell_stays hb g2, cell_stays hb g3, cell_stays hb g4, hb⟩
        clear u0 u1 u2 u3 u4 g0 g1 g2 g3 g4
        go_wp2_with fail
        have hSd := unhide HS _ (unhide HBx).drew
        go_region_held3 (fun w1 => w1.cell? ⟨b1, o1 + k * 5, none⟩ = some (.string n1) ∧ w1.cell? ⟨b1, o1 + k * 5 + 1, none⟩ = some (.string v1) ∧ w1.cell? ⟨b1, o1 + k * 5 + 1 + 1, none⟩ = some (.string s1) ∧ w1.cell? ⟨b1, o1 + k * 5 + 1 + 1 + 1, none⟩ = some (.slice aa1 rl1 c1) ∧ w1.cell? ⟨b1, o1 + k * 5 + 1 + 1 + 1 + 1, none⟩ = some (.int .i64 l1) ∧
            w1.cell? ⟨b2, o2 + i * 5, none⟩ = some (.string n2) ∧ w1.cell? ⟨b2, o2 + i * 5 + 1, none⟩ = some (.string v2) ∧ w1.cell? ⟨b2, o2 + i * 5 + 1 + 1, none⟩ = some (.string s2) ∧ w1.cell? ⟨b2, o2 + i * 5 + 1 + 1 + 1, none⟩ = some (.slice aa2 rl2 c2) ∧ w1.cell? ⟨b2, o2 + i * 5 + 1 + 1 + 1 + 1, none⟩ = some (.int .i64 l2) ∧ Below w.heap.size w w1)
          (first | assumption | exact hSd)
          (first
            | (go_at_call 13
               refine (unhide H13 _ hSd.2.2.2.2.2.2.2.2.2.2).mono ?_
               rintro e w9 ⟨r, rfl, hr, hb9⟩
               have HR := hide hr
               have hS9 := unhide HS _ (hSd.2.2.2.2.2.2.2.2.2.2.trans (hb9.mono hSd.2.2.2.2.2.2.2.2.2.2.size))
               clear hb9 hr
               go_wp2_with fail))
        have HB9 := hide hS9.2.2.2.2.2.2.2.2.2.2
        clear hS9 hSd HS
        cases r with
        | false =>
          have hne : i ≠ p := fun h => by have := unhide HR (unhide HIf h); cases this
          have HNe := hide hne
          clear hne
          go_wp2
          go_roundg (p - (i + 1))
          case measure => have := unhide HI; have := unhide HNe; omega
          case rel => exact ⟨i + 1, by have := unhide HNe; omega, by go_num, unhide HB9⟩
        | true =>
          have hne : ((i : Int) == (len2 : Int)) = false := by rw [beq_eq_false_iff_ne]; omega
          go_wp2
          go_roundg (len - (k + 1))
          case measure => have := unhide HK; omega
          case rel => exact ⟨k + 1, i + 1, by omega, by go_num, by go_num, (fun h => by have := unhide HInc h; omega), unhide HB9⟩
    · go_wp2
      go_ret
      exact ⟨rfl, unhide HBr⟩

set_option maxRecDepth 100000 in
set_option maxHeartbeats 4000000 in
theorem subnames_any (a : Option Addr) (len cap : Nat) (L : List Kept) (a2 : Option Addr) (len2 cap2 : Nat) (ks : List Kept) (J : Nat → Nat) (w : World) (hL : Gems w a len L) (hg : Gems w a2 len2 ks) (hl : len ≤ 1048576) (hl2 : len2 ≤ 1048576)
    (hJ : Asc len len2 J) (hs : ∀ k, k < len → (gk ks (J k)).gem.name = (gk L k).gem.name) :
    Calls Try.prog 19 #[.slice a len cap, .slice a2 len2 cap2] w fun e w' => TrueEnd w e w' := by
  have HLs := hide hL
  have HG := hide hg
  have HJ := hide hJ
  have HSg := hide hs
  have HB0 := hide (Below.refl w.heap.size w)
  clear hL hg hJ hs
  go_enter Try.func19, Try.ntmps19
  go_wp2
  go_loopg [5, 6] len (fun q t u wr => ∃ k j : Nat, k + q = len ∧ u = .int .i64 k ∧ t = .int .i64 j ∧ Hid (k < len → j ≤ J k) ∧ ∃ m, wr = w.drewN m)
  case atStart => exact ⟨0, 0, by omega, rfl, rfl, fun _ => Nat.zero_le _, 0, rfl⟩
  case round =>
    obtain ⟨k, j, hk, rfl, rfl, HJk, m, rfl⟩ := hrel
    have HK := hide hk
    clear hk
    by_cases hkl : k < len
    · have hJl := (unhide HJ).lt k hkl
      have hjJ := unhide HJk hkl
      obtain ⟨b1, o1, rfl, hc1⟩ := (unhide HLs).2.1 (by omega)
      obtain ⟨b2, o2, rfl, hc2⟩ := (unhide HG).2.1 (by omega)
      have HC2 := hide (fun i hi => (hc2 i hi).c0)
      have hU := (hc1 k hkl).c0
      have HSk := hide (unhide HSg k hkl)
      have HInc := hide ((unhide HJ).inc k)
      have HJJ := hide hjJ
      generalize hJk : J k = p at *
      clear hJk HJk hjJ
      have HPl := hide hJl
      have hkl' : (k : Int) < (len : Int) := by omega
      clear hc1 hc2 hJl
      generalize (Go.Proofs.Qxb6602477a.gk L k).gem.name = s at *
      go_wp2
      go_loopg [5] (p - j) (fun q t wx => ∃ i : Nat, i + q = p ∧ t = .int .i64 i ∧ ∃ m, wx = w.drewN m)
      case atStart => exact ⟨j, by have := unhide HJJ; omega, rfl, _, rfl⟩
      case round =>
        obtain ⟨i, hi, rfl, m2, rfl⟩ := hrel
        have HI := hide hi
        clear hi
        have hip : i ≤ p := by have := unhide HI; omega
        have hil : (i : Int) < (len2 : Int) := by have := unhide HPl; omega
        have hG := unhide HC2 i (by omega)
        have HIf : Hid (i = p → (Go.Proofs.Qxb6602477a.gk ks i).gem.name = s) := fun h => by rw [h]; exact unhide HSk
        by_cases hst : (Go.Proofs.Qxb6602477a.gk ks i).gem.name = s
        · rw [hst] at hG
          have hq := str_refl s
          have hne : ((i : Int) == (len2 : Int)) = false := by rw [beq_eq_false_iff_ne]; omega
          clear hst HIf
          go_wp2
          go_quiet (fail)
          go_wp2
          go_roundg (len - (k + 1))
          case measure => have := unhide HK; omega
          case rel => exact ⟨k + 1, i + 1, by omega, by go_num, by go_num, (fun h => by have := unhide HInc h; omega), _, rfl⟩
        · have HNe : Hid (i ≠ p) := fun h => hst (unhide HIf h)
          have hq := str_ne hst
          clear hst HIf
          generalize hsj : (Go.Proofs.Qxb6602477a.gk ks i).gem.name = t at hG hq
          clear hsj
          go_wp2
          go_quiet (fail)
          go_wp2
          go_roundg (p - (i + 1))
          case measure => have := unhide HI; have := unhide HNe; omega
          case rel => exact ⟨i + 1, by have := unhide HNe; omega, by go_num, _, rfl⟩
    · go_wp2
      go_ret
      exact ⟨rfl, below_drewN (unhide HB0) _⟩
end Go.Proofs.Qxb6602477a
