/- A proof of 'Rows.FnCopyValueIsExactCopySaid'. The frame is the guide's template; the walks are mine. -/
import Derived.Test.Qxb6000018aRows
import Derived.Test.Qxb6000018aCopy
import Derived.WalkKit
import Derived.ProofKit
import Derived.OpenShut
import Derived.ShutString
import Derived.ChangeOld
import Derived.Below
namespace Go.Proofs.Qxb6000018a.fnCopyValueIsExactCopy
open Go.ChangeShapes Go.WideShapes Go.ChangeAt Go.RowKit
open Go.ChangeMaps (open_string shut_string)
set_option linter.unusedVariables false

theorem own : ownKnob Try.prog.godebug = none := by kernel_rfl
theorem laidOut : laidOutB Try.prog = true := by kernel_rfl

/-- WHAT THE WALK IS TOLD OF A SLICE OF INTEGERS THAT CAME IN: it is nil; or it leads to a row of 'cap' cells, the numbers 'zs' (the first 'len' are its elements, the rest its spare room), each fitting its kind. -/
def IsRow (k : IntKind) (w : World) (a : Option Addr) (len cap : Nat) (zs : List Int) : Prop :=
  (a = none ∧ len = 0 ∧ cap = 0 ∧ zs = []) ∨
  ∃ x, a = some x ∧ len ≤ cap ∧ cap ≤ maxLen ∧ zs.length = cap ∧ (∀ i, i < zs.length → w.cell? (x.add i) = some (.int k (zs.getD i 0))) ∧ ∀ n ∈ zs, (Lit.int k n).wf = true

/-! ### STEP 1: THE WALK: the Go text returns true, and writes nothing that was there. -/
set_option maxHeartbeats 800000 in
theorem walk_far (a0 : Option Addr) (len0 cap0 : Nat) (a1 : Option Addr) (len1 cap1 : Nat) (a2 : Int) (a3 : Int) (w : World) (hbig : len0 + len1 ≤ 1048576 → 524288 < len0 ∨ 524288 < len1) :
    Calls Try.prog 6 #[.slice a0 len0 cap0, .slice a1 len1 cap1, .int .i64 a2, .int .i64 a3] w fun e w' => e = .returned (.bool true) ∧ Below w.heap.size w w' := by
  by_cases hs : len0 + len1 ≤ 1048576
  · by_cases h0 : 524288 < len0
    · go_enter Try.func6, Try.ntmps6
      go_wp2_with fail
      refine (zz9_yes a0 a1 len0 cap0 len1 cap1 a2 a3 w hs).mono ?_
      rintro e w' ⟨rfl, rfl⟩
      go_wp2
      go_ret
      exact ⟨rfl, Below.refl _ _⟩
    · have h1 : 524288 < len1 := by have := hbig hs; omega
      go_enter Try.func6, Try.ntmps6
      go_wp2_with fail
      refine (zz9_yes a0 a1 len0 cap0 len1 cap1 a2 a3 w hs).mono ?_
      rintro e w' ⟨rfl, rfl⟩
      go_wp2
      go_ret
      exact ⟨rfl, Below.refl _ _⟩
  · go_enter Try.func6, Try.ntmps6
    go_wp2_with fail
    refine (zz9_no a0 a1 len0 cap0 len1 cap1 a2 a3 w hs).mono ?_
    rintro e w' ⟨rfl, rfl⟩
    go_wp2
    go_ret
    exact ⟨rfl, Below.refl _ _⟩

set_option maxHeartbeats 1600000 in
theorem walk_near (a0 : Option Addr) (len0 cap0 : Nat) (y0 : List Int) (a1 : Option Addr) (len1 cap1 : Nat) (y1 : List Int) (a2 : Int) (a3 : Int) (w : World)
    (l0 : y0.length = len0) (l1 : y1.length = len1) (r0 : Reads w (.slice a0 len0 cap0) y0) (r1 : Reads w (.slice a1 len1 cap1) y1) (hs : len0 + len1 ≤ 1048576) (h0 : len0 ≤ 524288) (h1 : len1 ≤ 524288) :
    Calls Try.prog 6 #[.slice a0 len0 cap0, .slice a1 len1 cap1, .int .i64 a2, .int .i64 a3] w fun e w' => e = .returned (.bool true) ∧ Below w.heap.size w w' := by
  have hq := q30
  have L0 := hide l0
  have L1 := hide l1
  have R0 := hide r0
  have R1 := hide r1
  clear l0 l1 r0 r1
  go_enter Try.func6, Try.ntmps6
  go_wp2_with fail
  refine (zz9_yes a0 a1 len0 cap0 len1 cap1 a2 a3 w hs).mono ?_
  rintro e w' ⟨rfl, rfl⟩
  go_wp2_with fail
  refine (clone_any _ y0 _ (unhide R0) (by have := unhide L0; omega)).mono ?_
  rintro e w1 ⟨v0, rfl, o0, b0⟩
  have O0 := hide o0
  clear o0
  go_wp2_with fail
  refine (clone_any _ y1 w1 (reads_below (unhide R1) b0 (reads_lt (unhide R1))) (by have := unhide L1; omega)).mono ?_
  rintro e w2 ⟨v1, rfl, o1, b1⟩
  have O1 := hide o1
  clear o1
  obtain ⟨aa0, cc0, hv0⟩ := reads_slice (ownV_reads (unhide O0))
  subst hv0
  go_wp2_with fail
  refine (zzCopy_any _ _ _ v1 a2 a3 y1 w2 (ownV_reads (unhide O1)) (reads_lt (ownV_reads (unhide O1))) (by have := unhide L1; omega)).mono ?_
  rintro e w3 ⟨rfl, o3, b3⟩
  have O3 := hide o3
  clear o3
  go_wp2_with fail
  refine (same_any _ v1 y1 w3 (own_reads (unhide O3)) (ownV_reads (ownV_below (unhide O1) b3 (Nat.le_refl _))) (by have := unhide L1; omega)).mono ?_
  rintro e w4 ⟨rfl, n, rfl⟩
  go_wp2
  go_ret
  refine ⟨rfl, ?_⟩
  have s1 := b0.size
  have s2 := b1.size
  exact below_drewN (b0.trans ((b1.mono s1).trans (b3.mono (Nat.le_trans s1 s2)))) _

theorem walk (a0 : Option Addr) (len0 cap0 : Nat) (z0 : List Int) (a1 : Option Addr) (len1 cap1 : Nat) (z1 : List Int) (a2 : Int) (a3 : Int) (w : World) (w0 : IsRow .u8 w a0 len0 cap0 z0) (w1 : IsRow .u8 w a1 len1 cap1 z1) (w2 : (Lit.int .i64 a2).wf = true) (w3 : (Lit.int .i64 a3).wf = true) :
    Calls Try.prog 6 #[.slice a0 len0 cap0, .slice a1 len1 cap1, .int .i64 a2, .int .i64 a3] w fun e w' => e = .returned (.bool true) ∧ Below w.heap.size w w' := by
  obtain ⟨y0, l0, _, r0⟩ := reads_of_row w0
  obtain ⟨y1, l1, _, r1⟩ := reads_of_row w1
  by_cases hbig : len0 + len1 ≤ 1048576 → 524288 < len0 ∨ 524288 < len1
  · exact walk_far a0 len0 cap0 a1 len1 cap1 a2 a3 w hbig
  · exact walk_near a0 len0 cap0 y0 a1 len1 cap1 y1 a2 a3 w l0 l1 r0 r1 (by omega) (by omega) (by omega)

/-! ### THE ROW's STEP: WRITTEN OUT: LEAVE IT -/
set_option maxRecDepth 100000 in
theorem lifted (os : Os) (started : os.Started) (H : Type) (enc : TypeId × Value → H) :
    ReturnsInHanded {} Try.checked os 6 .any (Rows.fnCopyValueIsExactCopySpec.pre6 enc Try.prog Try.f6 Rows.fnCopyValueIsExactCopyRow.domain false) (Rows.fnCopyValueIsExactCopySpec.post enc Try.prog Try.f6 false true false false) := by
  refine returnsInHanded_of_change (C := Try.checked) own started (by kernel_rfl) Try.func6
    (ChangeSpec.witness6 (enc := enc) (C := Try.checked) false ⟨#[], #[.slice none 0 0, .slice none 0 0, .int .i64 0, .int .i64 0], []⟩ 8 (by kernel_rfl) (by kernel_rfl) (by kernel_rfl) (by kernel_rfl)) ?_
  intro W base args ds gs before hval0 hW hcnd _
  have hval : ∀ (j : Nat) t v, Try.f6.params[j]? = some t → args[j]? = some v → Value.okWide Try.prog W .any base t v := hval0
  have hW' := hW
  obtain ⟨p, q, hA0, hV, rfl, hfz, hnd⟩ := hW
  have hA : DataW.TrodAll enc Try.prog W 0 (fun _ => true) true Try.f6.params.toList args.toList ds p := hA0
  rw [Try.params6] at hA hval
  obtain ⟨v0, vs0, d0, ds0, p0, q0, hargs, rfl, rfl, h0, r0⟩ := trodAll_cons hA
  obtain ⟨v1, vs1, d1, ds1, p1, q1, rfl, rfl, rfl, h1, r1⟩ := trodAll_cons r0
  obtain ⟨v2, vs2, d2, ds2, p2, q2, rfl, rfl, rfl, h2, r2⟩ := trodAll_cons r1
  obtain ⟨v3, vs3, d3, ds3, p3, q3, rfl, rfl, rfl, h3, r3⟩ := trodAll_cons r2
  obtain ⟨rfl, rfl, rfl⟩ := trodAll_nil r3
  obtain rfl : args = #[v0, v1, v2, v3] := by cases args; simp_all
  obtain ⟨rfl, rfl⟩ := trodVars_none hV
  obtain ⟨a0, len0, cap0, rfl⟩ := okWide_slice Try.underlying30 (hval 0 30 v0 rfl rfl)
  have k0 := h0
  have lt0 : ∀ x ∈ p0, x.block < W.heap.size := by obtain ⟨m, hm⟩ := k0; exact DataW.trod_lt m _ _ _ hm
  obtain ⟨z0, w0⟩ : ∃ zs, IsRow .u8 W a0 len0 cap0 zs := by
    obtain ⟨fuel, hf⟩ := h0
    rcases open_ints Try.underlying30 Try.underlying5 (by kernel_rfl) hf with ⟨hcs, _⟩ | ⟨x, l, c, zs, hcs, _, hl, hm, hz, _, hcell, hwz⟩
    · simp [Value.cells] at hcs
      obtain ⟨rfl, rfl, rfl⟩ := hcs
      exact ⟨[], .inl ⟨rfl, rfl, rfl, rfl⟩⟩
    · simp [Value.cells] at hcs
      obtain ⟨rfl, rfl, rfl⟩ := hcs
      exact ⟨zs, .inr ⟨_, rfl, hl, hm, by simpa using hz, hcell, hwz⟩⟩
  obtain ⟨a1, len1, cap1, rfl⟩ := okWide_slice Try.underlying30 (hval 1 30 v1 rfl rfl)
  have k1 := h1
  have lt1 : ∀ x ∈ p1, x.block < W.heap.size := by obtain ⟨m, hm⟩ := k1; exact DataW.trod_lt m _ _ _ hm
  obtain ⟨z1, w1⟩ : ∃ zs, IsRow .u8 W a1 len1 cap1 zs := by
    obtain ⟨fuel, hf⟩ := h1
    rcases open_ints Try.underlying30 Try.underlying5 (by kernel_rfl) hf with ⟨hcs, _⟩ | ⟨x, l, c, zs, hcs, _, hl, hm, hz, _, hcell, hwz⟩
    · simp [Value.cells] at hcs
      obtain ⟨rfl, rfl, rfl⟩ := hcs
      exact ⟨[], .inl ⟨rfl, rfl, rfl, rfl⟩⟩
    · simp [Value.cells] at hcs
      obtain ⟨rfl, rfl, rfl⟩ := hcs
      exact ⟨zs, .inr ⟨_, rfl, hl, hm, by simpa using hz, hcell, hwz⟩⟩
  obtain ⟨a2, rfl, rfl, rfl, w2⟩ := open_int Try.underlying2 (hval 2 2 v2 rfl rfl) h2
  obtain ⟨a3, rfl, rfl, rfl, w3⟩ := open_int Try.underlying3 (hval 3 3 v3 rfl rfl) h3
  clear hA0 hval0
  refine (walk a0 len0 cap0 z0 a1 len1 cap1 z1 a2 a3 W w0 w1 w2 w3).mono fun e W' ⟨he, bel⟩ => ?_
  subst he
  exact ⟨_, rfl, _, _, _, [], _, [], hW', trodAll_mk1 (shut_bool Try.underlying4 _), (trodAll_cons_mk (Below.trod laidOut (by kernel_rfl) (of_decide_eq_true (by kernel_rfl)) k0 bel lt0) (trodAll_cons_mk (Below.trod laidOut (by kernel_rfl) (of_decide_eq_true (by kernel_rfl)) k1 bel lt1) (trodAll_cons_mk (shut_int Try.underlying2 w2) (trodAll_cons_mk (shut_int Try.underlying3 w3) trodAll_mk0)))), rfl, bel.frame _, fun h => by cases h⟩

theorem over : Rows.fnCopyValueIsExactCopyRow.holds Try.pinned (OpenSpec.ofChange Rows.fnCopyValueIsExactCopySpec) :=
  OpenClaim.holds_of_wide 6 Try.f6 rfl rfl rfl rfl rfl rfl rfl ⟨rfl, rfl, rfl, rfl, rfl⟩ rfl rfl rfl rfl rfl (by kernel_rfl) Try.func6 (by kernel_rfl)
    (of_decide_eq_true (by kernel_rfl)) (by unfold Func.isWrapper; first | (rw [if_pos (by decide +kernel)]; kernel_rfl) | (rw [if_neg (by decide +kernel)]; exact ⟨rfl, rfl⟩))
    (fun os started H enc _ => lifted os started H enc)

/-- ████ THE STATEMENT ████ -/
theorem proved : Rows.FnCopyValueIsExactCopySaid := over
#print axioms proved
end Go.Proofs.Qxb6000018a.fnCopyValueIsExactCopy
