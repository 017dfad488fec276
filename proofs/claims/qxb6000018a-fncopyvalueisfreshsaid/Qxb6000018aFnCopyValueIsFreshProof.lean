/- A proof of 'Rows.FnCopyValueIsFreshSaid'. The frame is the guide's template; the walks are mine. -/
import Derived.Test.Qxb6000018aRows
import Derived.Test.Qxb6000018aCopy
import Derived.WalkKit
import Derived.ProofKit
import Derived.OpenShut
import Derived.ShutString
import Derived.ChangeOld
import Derived.Below
namespace Go.Proofs.Qxb6000018a.fnCopyValueIsFresh
open Go.ChangeShapes Go.WideShapes Go.ChangeAt Go.RowKit
open Go.ChangeMaps (open_string shut_string)
set_option linter.unusedVariables false

theorem own : ownKnob Try.prog.godebug = none := by kernel_rfl
theorem laidOut : laidOutB Try.prog = true := by kernel_rfl

/-- WHAT THE WALK IS TOLD OF A SLICE OF INTEGERS THAT CAME IN: it is nil; or it leads to a row of 'cap' cells, the numbers 'zs' (the first 'len' are its elements, the rest its spare room), each fitting its kind. -/
def IsRow (k : IntKind) (w : World) (a : Option Addr) (len cap : Nat) (zs : List Int) : Prop :=
  (a = none ∧ len = 0 ∧ cap = 0 ∧ zs = []) ∨
  ∃ x, a = some x ∧ len ≤ cap ∧ cap ≤ maxLen ∧ zs.length = cap ∧ (∀ i, i < zs.length → w.cell? (x.add i) = some (.int k (zs.getD i 0))) ∧ ∀ n ∈ zs, (Lit.int k n).wf = true

/-! ### STEP 1: THE WALK: the Go text returns true, and writes nothing that was there. -/
/-- The row of numbers that the loop turns. -/
def Nums (w : World) (g n : Nat) : Prop := ∃ cs : List Value, w.heap[g]? = some (.cells cs.toArray 5 (0, 0)) ∧ cs.length = n ∧ ∀ i, i < n → ∃ z, cs[i]? = some (.int .u8 z)
theorem nums_own {w : World} {g : Nat} {zs : List Int} (h : Own w g zs) : Nums w g zs.length :=
  ⟨vals zs, h, vals_length zs, fun i hi => ⟨_, vals_get hi⟩⟩
theorem nums_cell {w : World} {g n k : Nat} (h : Nums w g n) (hk : k < n) : ∃ z, w.cell? ⟨g, k, none⟩ = some (.int .u8 z) := by
  obtain ⟨cs, h1, h2, h3⟩ := h
  obtain ⟨z, hz⟩ := h3 k hk
  exact ⟨z, blk_cell h1 hz⟩
theorem nums_free {w : World} {g n : Nat} (h : Nums w g n) (k : Nat) : w.frozen? ⟨g, k, none⟩ = false := by
  obtain ⟨cs, h1, h2, h3⟩ := h
  exact blk_free h1
theorem nums_set {w : World} {g n k : Nat} (h : Nums w g n) (hk : k < n) (z : Int) : Nums (w.setCell ⟨g, k, none⟩ (.int .u8 z)) g n := by
  obtain ⟨cs, h1, h2, h3⟩ := h
  refine ⟨cs.set k (.int .u8 z), blk_set h1, by simp [h2], fun i hi => ?_⟩
  by_cases e : i = k
  · subst e; exact ⟨z, by simp [h2, hk]⟩
  · rw [List.getElem?_set_ne (by omega)]; exact h3 i hi

set_option maxHeartbeats 800000 in
theorem walk_far (a0 : Option Addr) (len0 cap0 : Nat) (a1 : Option Addr) (len1 cap1 : Nat) (a2 : Int) (a3 : Int) (w : World) (hbig : len0 + len1 ≤ 1048576 → 262144 < len0 ∨ 262144 < len1) :
    Calls Try.prog 7 #[.slice a0 len0 cap0, .slice a1 len1 cap1, .int .i64 a2, .int .i64 a3] w fun e w' => e = .returned (.bool true) ∧ Below w.heap.size w w' := by
  by_cases hs : len0 + len1 ≤ 1048576
  · by_cases h0 : 262144 < len0
    · go_enter Try.func7, Try.ntmps7
      go_wp2_with fail
      refine (zz13_yes a0 a1 len0 cap0 len1 cap1 a2 a3 w hs).mono ?_
      rintro e w' ⟨rfl, rfl⟩
      go_wp2
      go_ret
      exact ⟨rfl, Below.refl _ _⟩
    · have h1 : 262144 < len1 := by have := hbig hs; omega
      go_enter Try.func7, Try.ntmps7
      go_wp2_with fail
      refine (zz13_yes a0 a1 len0 cap0 len1 cap1 a2 a3 w hs).mono ?_
      rintro e w' ⟨rfl, rfl⟩
      go_wp2
      go_ret
      exact ⟨rfl, Below.refl _ _⟩
  · go_enter Try.func7, Try.ntmps7
    go_wp2_with fail
    refine (zz13_no a0 a1 len0 cap0 len1 cap1 a2 a3 w hs).mono ?_
    rintro e w' ⟨rfl, rfl⟩
    go_wp2
    go_ret
    exact ⟨rfl, Below.refl _ _⟩

set_option maxHeartbeats 3200000 in
theorem walk_near (a0 : Option Addr) (len0 cap0 : Nat) (y0 : List Int) (a1 : Option Addr) (len1 cap1 : Nat) (y1 : List Int) (a2 : Int) (a3 : Int) (w : World)
    (l0 : y0.length = len0) (l1 : y1.length = len1) (r0 : Reads w (.slice a0 len0 cap0) y0) (r1 : Reads w (.slice a1 len1 cap1) y1) (hs : len0 + len1 ≤ 1048576) (h0 : len0 ≤ 262144) (h1 : len1 ≤ 262144) :
    Calls Try.prog 7 #[.slice a0 len0 cap0, .slice a1 len1 cap1, .int .i64 a2, .int .i64 a3] w fun e w' => e = .returned (.bool true) ∧ Below w.heap.size w w' := by
  have L0 := hide l0
  have L1 := hide l1
  have R0 := hide r0
  have R1 := hide r1
  clear l0 l1 r0 r1
  go_enter Try.func7, Try.ntmps7
  go_wp2_with fail
  refine (zz13_yes a0 a1 len0 cap0 len1 cap1 a2 a3 w hs).mono ?_
  rintro e w' ⟨rfl, rfl⟩
  go_wp2_with fail
  refine (clone_any _ y0 _ (unhide R0) (by have := unhide L0; omega)).mono ?_
  rintro e w1 ⟨v0, rfl, o0, b0⟩
  have O0 := hide o0
  clear o0
  go_wp2_with fail
  refine (clone_any _ y1 w1 (reads_below (unhide R1) b0 (reads_lt (unhide R1))) (by have := unhide L1; omega)).mono ?_
  rintro e w2 ⟨v1, rfl, o1, b1⟩
  have O1 := hide o1
  have O0' := hide (ownV_below (unhide O0) b1 (Nat.le_refl _))
  clear o1 O0
  go_wp2_with fail
  refine (clone_any _ y0 w2 (ownV_reads (unhide O0')) (by have := unhide L0; omega)).mono ?_
  rintro e w3 ⟨v2, rfl, o2, b2⟩
  have O2 := hide o2
  have O1' := hide (ownV_below (unhide O1) b2 (Nat.le_refl _))
  have O0 := hide (ownV_below (unhide O0') b2 (Nat.le_refl _))
  clear o2 O1 O0'
  go_wp2_with fail
  refine (clone_any _ y1 w3 (ownV_reads (unhide O1')) (by have := unhide L1; omega)).mono ?_
  rintro e w4 ⟨v3, rfl, o3, b3⟩
  have O3 := hide o3
  have O2' := hide (ownV_below (unhide O2) b3 (Nat.le_refl _))
  have O1 := hide (ownV_below (unhide O1') b3 (Nat.le_refl _))
  have O0' := hide (ownV_below (unhide O0) b3 (Nat.le_refl _))
  clear o3 O1' O0 O2
  obtain ⟨aa0, cc0, hv0⟩ := reads_slice (ownV_reads (unhide O0'))
  subst hv0
  go_wp2_with fail
  refine (zzCopy_any _ _ _ v1 a2 a3 y1 w4 (ownV_reads (unhide O1)) (reads_lt (ownV_reads (unhide O1))) (by have := unhide L1; omega)).mono ?_
  rintro e w5 ⟨rfl, o5, b5⟩
  have N5 := hide (nums_own o5)
  have P3 := hide (ownV_below (unhide O3) b5 (Nat.le_refl _))
  have P2 := hide (ownV_below (unhide O2') b5 (Nat.le_refl _))
  have P1 := hide (ownV_below (unhide O1) b5 (Nat.le_refl _))
  have P0 := hide (ownV_below (unhide O0') b5 (Nat.le_refl _))
  have hbel := hide (b0.trans ((b1.mono b0.size).trans ((b2.mono (Nat.le_trans b0.size b1.size)).trans ((b3.mono (Nat.le_trans b0.size (Nat.le_trans b1.size b2.size))).trans (b5.mono (Nat.le_trans b0.size (Nat.le_trans b1.size (Nat.le_trans b2.size b3.size))))))))
  have hsz := hide (Nat.le_trans b0.size (Nat.le_trans b1.size (Nat.le_trans b2.size b3.size)))
  have hny : y1.length ≤ 262144 := by have := unhide L1; omega
  have hny0 := hide (show y0.length ≤ 262144 by have := unhide L0; omega)
  have hgs := hide (show w4.heap.size ≤ w5.heap.size from b5.size)
  have B5 := hide b5
  clear b0 b1 b2 b3 b5 P3 P2 P1 P0 o5 L0 L1 R0 R1
  generalize hg : w4.heap.size + 1 = g at *
  have HG := hide hg
  clear hg
  go_wp2
  go_loopw [12] (fun i wr => ∃ k : Nat, k ≤ y1.length ∧ i = .int .i64 k ∧ Nums wr g y1.length ∧ Below g w5 wr) (fun i _ => y1.length - (intOf i).toNat)
  case atStart => exact ⟨0, Nat.zero_le _, rfl, unhide N5, Below.refl _ _⟩
  case round =>
    obtain ⟨k, hk, rfl, hnum, hbr⟩ := hrel
    by_cases hlt : k < y1.length
    · obtain ⟨z, hz⟩ := nums_cell hnum hlt
      have hfr := nums_free hnum k
      have RN := hide (nums_set hnum hlt)
      have RB := hide (fun v => hbr.setCell (p := ⟨g, k, none⟩) (Nat.le_refl _) v)
      clear hnum hbr
      go_wp2
      go_roundw
      case rel => exact ⟨k + 1, by omega, by go_num, unhide RN _, unhide RB _⟩
      case measure => simp [intOf]; omega
    · have HB := hide ((unhide B5).trans (hbr.mono (by have := unhide HG; omega)))
      have HW := hide ((unhide hbel).trans (hbr.mono (by have := unhide HG; have := unhide hsz; omega)))
      have HS := hide (Nat.le_trans (unhide hsz) (Nat.le_trans (unhide hgs) hbr.size))
      have P3 := hide (ownV_reads (ownV_below (unhide O3) (unhide HB) (Nat.le_refl _)))
      have P2 := hide (ownV_reads (ownV_below (unhide O2') (unhide HB) (Nat.le_refl _)))
      have P1 := hide (ownV_below (unhide O1) (unhide HB) (Nat.le_refl _))
      have P0 := hide (ownV_reads (ownV_below (unhide O0') (unhide HB) (Nat.le_refl _)))
      clear hnum hbr
      go_wp2_with fail
      refine (same_any _ v2 y0 wr (unhide P0) (unhide P2) (by have := unhide hny0; omega)).mono ?_
      rintro e w6 ⟨rfl, n6, rfl⟩
      go_wp2_with fail
      refine (same_any _ v3 y1 _ (by exact ownV_reads (unhide P1)) (by exact unhide P3) (by omega)).mono ?_
      rintro e w7 ⟨rfl, n7, rfl⟩
      go_wp2_with fail
      refine (zzCopy_any _ _ _ v1 a2 a3 y1 _ (by exact ownV_reads (unhide P1)) (by exact reads_lt (ownV_reads (unhide P1))) (by omega)).mono ?_
      rintro e w8 ⟨rfl, o8, b8⟩
      have O8 := hide o8
      have P3' := hide (reads_below (w := wr.drewN (n6 + n7)) (unhide P3) b8 (reads_lt (unhide P3)))
      clear o8
      go_wp2_with fail
      refine (same_any _ v3 y1 w8 (by exact own_reads (unhide O8)) (unhide P3') (by omega)).mono ?_
      rintro e w9 ⟨rfl, n9, rfl⟩
      go_wp2
      go_ret
      refine ⟨rfl, ?_⟩
      exact below_drewN ((below_drewN (unhide HW) (n6 + n7)).trans (b8.mono (unhide HS))) n9

theorem walk (a0 : Option Addr) (len0 cap0 : Nat) (z0 : List Int) (a1 : Option Addr) (len1 cap1 : Nat) (z1 : List Int) (a2 : Int) (a3 : Int) (w : World) (w0 : IsRow .u8 w a0 len0 cap0 z0) (w1 : IsRow .u8 w a1 len1 cap1 z1) (w2 : (Lit.int .i64 a2).wf = true) (w3 : (Lit.int .i64 a3).wf = true) :
    Calls Try.prog 7 #[.slice a0 len0 cap0, .slice a1 len1 cap1, .int .i64 a2, .int .i64 a3] w fun e w' => e = .returned (.bool true) ∧ Below w.heap.size w w' := by
  obtain ⟨y0, l0, _, r0⟩ := reads_of_row w0
  obtain ⟨y1, l1, _, r1⟩ := reads_of_row w1
  by_cases hbig : len0 + len1 ≤ 1048576 → 262144 < len0 ∨ 262144 < len1
  · exact walk_far a0 len0 cap0 a1 len1 cap1 a2 a3 w hbig
  · exact walk_near a0 len0 cap0 y0 a1 len1 cap1 y1 a2 a3 w l0 l1 r0 r1 (by omega) (by omega) (by omega)

/-! ### THE ROW's STEP: WRITTEN OUT: LEAVE IT -/
set_option maxRecDepth 100000 in
theorem lifted (os : Os) (started : os.Started) (H : Type) (enc : TypeId × Value → H) :
    ReturnsInHanded {} Try.checked os 7 .any (Rows.fnCopyValueIsFreshSpec.pre6 enc Try.prog Try.f7 Rows.fnCopyValueIsFreshRow.domain false) (Rows.fnCopyValueIsFreshSpec.post enc Try.prog Try.f7 false true false false) := by
  refine returnsInHanded_of_change (C := Try.checked) own started (by kernel_rfl) Try.func7
    (ChangeSpec.witness6 (enc := enc) (C := Try.checked) false ⟨#[], #[.slice none 0 0, .slice none 0 0, .int .i64 0, .int .i64 0], []⟩ 8 (by kernel_rfl) (by kernel_rfl) (by kernel_rfl) (by kernel_rfl)) ?_
  intro W base args ds gs before hval0 hW hcnd _
  have hval : ∀ (j : Nat) t v, Try.f7.params[j]? = some t → args[j]? = some v → Value.okWide Try.prog W .any base t v := hval0
  have hW' := hW
  obtain ⟨p, q, hA0, hV, rfl, hfz, hnd⟩ := hW
  have hA : DataW.TrodAll enc Try.prog W 0 (fun _ => true) true Try.f7.params.toList args.toList ds p := hA0
  rw [Try.params7] at hA hval
  obtain ⟨v0, vs0, d0, ds0, p0, q0, hargs, rfl, rfl, h0, r0⟩ := trodAll_cons hA
  obtain ⟨v1, vs1, d1, ds1, p1, q1, rfl, rfl, rfl, h1, r1⟩ := trodAll_cons r0
  obtain ⟨v2, vs2, d2, ds2, p2, q2, rfl, rfl, rfl, h2, r2⟩ := trodAll_cons r1
  obtain ⟨v3, vs3, d3, ds3, p3, q3, rfl, rfl, rfl, h3, r3⟩ := trodAll_cons r2
  obtain ⟨rfl, rfl, rfl⟩ := trodAll_nil r3
  obtain rfl : args = #[v0, v1, v2, v3] := by cases args; simp_all
  obtain ⟨rfl, rfl⟩ := trodVars_none hV
  obtain ⟨a0, len0, cap0, rfl⟩ := okWide_slice Try.underlying30 (hval 0 30 v0 rfl rfl)
  have k0 := h0
  have lt0 : ∀ x ∈ p0, x.block < W.heap.size := by obtain ⟨m, hm⟩ := k0; exact DataW.trod_lt m _ _ _ hm
  obtain ⟨z0, w0⟩ : ∃ zs, IsRow .u8 W a0 len0 cap0 zs := by
    obtain ⟨fuel, hf⟩ := h0
    rcases open_ints Try.underlying30 Try.underlying5 (by kernel_rfl) hf with ⟨hcs, _⟩ | ⟨x, l, c, zs, hcs, _, hl, hm, hz, _, hcell, hwz⟩
    · simp [Value.cells] at hcs
      obtain ⟨rfl, rfl, rfl⟩ := hcs
      exact ⟨[], .inl ⟨rfl, rfl, rfl, rfl⟩⟩
    · simp [Value.cells] at hcs
      obtain ⟨rfl, rfl, rfl⟩ := hcs
      exact ⟨zs, .inr ⟨_, rfl, hl, hm, by simpa using hz, hcell, hwz⟩⟩
  obtain ⟨a1, len1, cap1, rfl⟩ := okWide_slice Try.underlying30 (hval 1 30 v1 rfl rfl)
  have k1 := h1
  have lt1 : ∀ x ∈ p1, x.block < W.heap.size := by obtain ⟨m, hm⟩ := k1; exact DataW.trod_lt m _ _ _ hm
  obtain ⟨z1, w1⟩ : ∃ zs, IsRow .u8 W a1 len1 cap1 zs := by
    obtain ⟨fuel, hf⟩ := h1
    rcases open_ints Try.underlying30 Try.underlying5 (by kernel_rfl) hf with ⟨hcs, _⟩ | ⟨x, l, c, zs, hcs, _, hl, hm, hz, _, hcell, hwz⟩
    · simp [Value.cells] at hcs
      obtain ⟨rfl, rfl, rfl⟩ := hcs
      exact ⟨[], .inl ⟨rfl, rfl, rfl, rfl⟩⟩
    · simp [Value.cells] at hcs
      obtain ⟨rfl, rfl, rfl⟩ := hcs
      exact ⟨zs, .inr ⟨_, rfl, hl, hm, by simpa using hz, hcell, hwz⟩⟩
  obtain ⟨a2, rfl, rfl, rfl, w2⟩ := open_int Try.underlying2 (hval 2 2 v2 rfl rfl) h2
  obtain ⟨a3, rfl, rfl, rfl, w3⟩ := open_int Try.underlying3 (hval 3 3 v3 rfl rfl) h3
  clear hA0 hval0
  refine (walk a0 len0 cap0 z0 a1 len1 cap1 z1 a2 a3 W w0 w1 w2 w3).mono fun e W' ⟨he, bel⟩ => ?_
  subst he
  exact ⟨_, rfl, _, _, _, [], _, [], hW', trodAll_mk1 (shut_bool Try.underlying4 _), (trodAll_cons_mk (Below.trod laidOut (by kernel_rfl) (of_decide_eq_true (by kernel_rfl)) k0 bel lt0) (trodAll_cons_mk (Below.trod laidOut (by kernel_rfl) (of_decide_eq_true (by kernel_rfl)) k1 bel lt1) (trodAll_cons_mk (shut_int Try.underlying2 w2) (trodAll_cons_mk (shut_int Try.underlying3 w3) trodAll_mk0)))), rfl, bel.frame _, fun h => by cases h⟩

theorem over : Rows.fnCopyValueIsFreshRow.holds Try.pinned (OpenSpec.ofChange Rows.fnCopyValueIsFreshSpec) :=
  OpenClaim.holds_of_wide 7 Try.f7 rfl rfl rfl rfl rfl rfl rfl ⟨rfl, rfl, rfl, rfl, rfl⟩ rfl rfl rfl rfl rfl (by kernel_rfl) Try.func7 (by kernel_rfl)
    (of_decide_eq_true (by kernel_rfl)) (by unfold Func.isWrapper; first | (rw [if_pos (by decide +kernel)]; kernel_rfl) | (rw [if_neg (by decide +kernel)]; exact ⟨rfl, rfl⟩))
    (fun os started H enc _ => lifted os started H enc)

/-- ████ THE STATEMENT ████ -/
theorem proved : Rows.FnCopyValueIsFreshSaid := over
#print axioms proved
end Go.Proofs.Qxb6000018a.fnCopyValueIsFresh
