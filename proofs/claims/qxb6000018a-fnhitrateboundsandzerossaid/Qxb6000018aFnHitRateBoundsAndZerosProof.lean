/- A proof of 'Rows.FnHitRateBoundsAndZerosSaid'. The frame is the guide's template; the walk and the plain law on floats (Qxb6000018aFloat) are mine. -/
import Derived.Test.Qxb6000018aRows
import Derived.Test.Qxb6000018aRate
import Derived.WalkLawsBesides
import Derived.WalkKit
import Derived.ProofKit
import Derived.OpenShut
import Derived.ShutString
namespace Go.Proofs.Qxb6000018a.fnHitRateBoundsAndZeros
open Go.ChangeShapes Go.WideShapes Go.ChangeAt Go.RowKit
open Go.ChangeMaps (open_string shut_string)
set_option linter.unusedVariables false      -- a walk need not use every 'w<i>' (that an integer argument fits its kind)

theorem own : ownKnob Try.prog.godebug = none := by kernel_rfl

/-! ### STEP 1: THE WALK: the Go text returns true. -/
theorem ord_zero : FloatKind.f64.format.order 0 0 = some .eq := by decide +kernel
theorem ord_one : FloatKind.f64.format.order 0 4607182418800017408 = some .lt := by decide +kernel
set_option maxHeartbeats 800000 in
theorem walk_zero (a2 : Int) (a3 : Int) (a4 : Int) (a5 : Int) (w : World) :
    Calls Try.prog 3 #[.int .u64 0, .int .u64 0, .int .u64 a2, .int .u64 a3, .int .u64 a4, .int .i64 a5] w fun e w' => e = .returned (.bool true) ∧ Grown w w' := by
  have o1 := ord_zero
  have o2 := ord_one
  go_enter Try.func3, Try.ntmps3
  go_wp2_with fail
  refine (rate_zero _ _ _ _ _).mono ?_
  rintro e w1 ⟨rfl, hg1⟩
  go_wp2_with fail
  refine (rate_zero _ _ _ _ _).mono ?_
  rintro e w2 ⟨rfl, hg2⟩
  go_wp2_with fail
  go_ret
  exact ⟨rfl, grown_trans (grown_trans ((Grown.refl w).alloc _ _) hg1) (grown_trans ((Grown.refl w1).alloc _ _) hg2)⟩

theorem fmt64 : FloatKind.f64.format = Ieee.double := rfl
set_option maxHeartbeats 1600000 in
theorem walk_any (h m s r : Nat) (a2 : Int) (a3 : Int) (a4 : Int) (a5 : Int) (w : World) (hne : ¬ (h = 0 ∧ m = 0))
    (hadd : Ieee.double.add (Fl.fInt h) (Fl.fInt m) = some s) (hdiv : Ieee.double.div (Fl.fInt h) s = some r) (hgood : Fl.Good h m r) :
    Calls Try.prog 3 #[.int .u64 h, .int .u64 m, .int .u64 a2, .int .u64 a3, .int .u64 a4, .int .i64 a5] w fun e w' => e = .returned (.bool true) ∧ Grown w w' := by
  have hc : ∀ v2 v3 v4 v5 w, Calls Try.prog 8 #[.agg #[.int .u64 h, .int .u64 m, v2, v3, v4, v5]] w fun e w' => e = .returned (.float .f64 r) ∧ Grown w w' :=
    fun v2 v3 v4 v5 w => rate_any h m s r v2 v3 v4 v5 w hne hadd hdiv
  have HC := hide hc
  clear hc hadd hdiv
  have o1 : FloatKind.f64.format.order r r = some .eq := hgood.refl
  have o2 : (FloatKind.f64.format.order r 4607182418800017408 == some Ordering.gt) = false := by
    rw [beq_eq_false_iff_ne]; exact hgood.le1
  have o3 := hgood.notNeg
  rw [← fmt64] at o3
  have o4 := hgood.one
  rw [← fmt64] at o4
  clear hgood
  by_cases h0 : h = 0
  · have e0 : ((h : Int) == 0) = true := by rw [beq_iff_eq]; omega
    have e1 : ((m : Int) == 0) = false := by rw [beq_eq_false_iff_ne]; omega
    rw [if_pos h0] at o3
    clear o4 hne h0
    go_enter Try.func3, Try.ntmps3
    go_wp2_with fail
    refine (unhide HC _ _ _ _ _).mono ?_
    rintro e w1 ⟨rfl, hg1⟩
    go_wp2_with fail
    refine (unhide HC _ _ _ _ _).mono ?_
    rintro e w2 ⟨rfl, hg2⟩
    go_wp2_with fail
    go_ret
    exact ⟨rfl, grown_trans (grown_trans ((Grown.refl w).alloc _ _) hg1) (grown_trans ((Grown.refl w1).alloc _ _) hg2)⟩
  · have e0 : ((h : Int) == 0) = false := by rw [beq_eq_false_iff_ne]; omega
    have e2 : (0 : Int) < (h : Int) := by omega
    rw [if_neg h0] at o3
    by_cases m0 : m = 0
    · have e1 : ((m : Int) == 0) = true := by rw [beq_iff_eq]; omega
      have o5 := o4 m0 (by omega)
      clear o4 hne h0 m0 o2
      go_enter Try.func3, Try.ntmps3
      go_wp2_with fail
      refine (unhide HC _ _ _ _ _).mono ?_
      rintro e w1 ⟨rfl, hg1⟩
      go_wp2_with fail
      refine (unhide HC _ _ _ _ _).mono ?_
      rintro e w2 ⟨rfl, hg2⟩
      go_wp2_with fail
      go_ret
      exact ⟨rfl, grown_trans (grown_trans ((Grown.refl w).alloc _ _) hg1) (grown_trans ((Grown.refl w1).alloc _ _) hg2)⟩
    · have e1 : ((m : Int) == 0) = false := by rw [beq_eq_false_iff_ne]; omega
      clear o4 hne h0 m0
      go_enter Try.func3, Try.ntmps3
      go_wp2_with fail
      refine (unhide HC _ _ _ _ _).mono ?_
      rintro e w1 ⟨rfl, hg1⟩
      go_wp2_with fail
      refine (unhide HC _ _ _ _ _).mono ?_
      rintro e w2 ⟨rfl, hg2⟩
      go_wp2_with fail
      go_ret
      exact ⟨rfl, grown_trans (grown_trans ((Grown.refl w).alloc _ _) hg1) (grown_trans ((Grown.refl w1).alloc _ _) hg2)⟩

theorem u64_nat {a : Int} (w : (Lit.int .u64 a).wf = true) : ∃ n : Nat, a = (n : Int) ∧ n < 18446744073709551616 := by
  have h := bounds_u64 w
  exact ⟨a.toNat, by omega, by omega⟩

theorem walk (a0 : Int) (a1 : Int) (a2 : Int) (a3 : Int) (a4 : Int) (a5 : Int) (w0 : (Lit.int .u64 a0).wf = true) (w1 : (Lit.int .u64 a1).wf = true) (w2 : (Lit.int .u64 a2).wf = true) (w3 : (Lit.int .u64 a3).wf = true) (w4 : (Lit.int .u64 a4).wf = true) (w5 : (Lit.int .i64 a5).wf = true) (w : World) :
    Calls Try.prog 3 #[.int .u64 a0, .int .u64 a1, .int .u64 a2, .int .u64 a3, .int .u64 a4, .int .i64 a5] w fun e w' => e = .returned (.bool true) ∧ Grown w w' := by
  obtain ⟨h, rfl, hh⟩ := u64_nat w0
  obtain ⟨m, rfl, hm⟩ := u64_nat w1
  by_cases hne : h = 0 ∧ m = 0
  · obtain ⟨rfl, rfl⟩ := hne
    exact walk_zero a2 a3 a4 a5 w
  · obtain ⟨s, r, hadd, hdiv, hgood⟩ := Fl.rate h m hh hm hne
    exact walk_any h m s r a2 a3 a4 a5 w hne hadd hdiv hgood

/-! ### THE ROW's STEP: WRITTEN OUT: LEAVE IT -/
set_option maxRecDepth 100000 in
theorem lifted (os : Os) (started : os.Started) (H : Type) (enc : TypeId × Value → H) :
    ReturnsInHanded {} Try.checked os 3 .any (Rows.fnHitRateBoundsAndZerosSpec.pre6 enc Try.prog Try.f3 Rows.fnHitRateBoundsAndZerosRow.domain false) (Rows.fnHitRateBoundsAndZerosSpec.post enc Try.prog Try.f3 false true false false) := by
  refine returnsInHanded_of_change (C := Try.checked) own started (by kernel_rfl) Try.func3
    (ChangeSpec.witness6 (enc := enc) (C := Try.checked) false ⟨#[], #[.int .u64 0, .int .u64 0, .int .u64 0, .int .u64 0, .int .u64 0, .int .i64 0], []⟩ 8 (by kernel_rfl) (by kernel_rfl) (by kernel_rfl) (by kernel_rfl)) ?_
  intro W base args ds gs before hval0 hW hcnd _
  have hval : ∀ (j : Nat) t v, Try.f3.params[j]? = some t → args[j]? = some v → Value.okWide Try.prog W .any base t v := hval0
  have hW' := hW
  obtain ⟨p, q, hA0, hV, rfl, hfz, hnd⟩ := hW
  have hA : DataW.TrodAll enc Try.prog W 0 (fun _ => true) true Try.f3.params.toList args.toList ds p := hA0
  rw [Try.params3] at hA hval
  obtain ⟨v0, vs0, d0, ds0, p0, q0, hargs, rfl, rfl, h0, r0⟩ := trodAll_cons hA
  obtain ⟨v1, vs1, d1, ds1, p1, q1, rfl, rfl, rfl, h1, r1⟩ := trodAll_cons r0
  obtain ⟨v2, vs2, d2, ds2, p2, q2, rfl, rfl, rfl, h2, r2⟩ := trodAll_cons r1
  obtain ⟨v3, vs3, d3, ds3, p3, q3, rfl, rfl, rfl, h3, r3⟩ := trodAll_cons r2
  obtain ⟨v4, vs4, d4, ds4, p4, q4, rfl, rfl, rfl, h4, r4⟩ := trodAll_cons r3
  obtain ⟨v5, vs5, d5, ds5, p5, q5, rfl, rfl, rfl, h5, r5⟩ := trodAll_cons r4
  obtain ⟨rfl, rfl, rfl⟩ := trodAll_nil r5
  obtain rfl : args = #[v0, v1, v2, v3, v4, v5] := by cases args; simp_all
  obtain ⟨rfl, rfl⟩ := trodVars_none hV
  obtain ⟨a0, rfl, rfl, rfl, w0⟩ := open_int Try.underlying22 (hval 0 22 v0 rfl rfl) h0
  obtain ⟨a1, rfl, rfl, rfl, w1⟩ := open_int Try.underlying22 (hval 1 22 v1 rfl rfl) h1
  obtain ⟨a2, rfl, rfl, rfl, w2⟩ := open_int Try.underlying22 (hval 2 22 v2 rfl rfl) h2
  obtain ⟨a3, rfl, rfl, rfl, w3⟩ := open_int Try.underlying22 (hval 3 22 v3 rfl rfl) h3
  obtain ⟨a4, rfl, rfl, rfl, w4⟩ := open_int Try.underlying22 (hval 4 22 v4 rfl rfl) h4
  obtain ⟨a5, rfl, rfl, rfl, w5⟩ := open_int Try.underlying2 (hval 5 2 v5 rfl rfl) h5
  clear hA0 hval0
  simp only [List.append_nil] at hW'
  refine (walk a0 a1 a2 a3 a4 a5 w0 w1 w2 w3 w4 w5 W).mono fun e W' ⟨he, hg⟩ => ?_
  subst he
  exact ⟨_, rfl, post_of_same (pa := []) (pv := []) hW' (fun _ _ _ => (trodAll_cons_mk (shut_bool Try.underlying4 _) trodAll_mk0)) (fun sp _ => (trodAll_cons_mk (shut_int Try.underlying22 w0) (trodAll_cons_mk (shut_int Try.underlying22 w1) (trodAll_cons_mk (shut_int Try.underlying22 w2) (trodAll_cons_mk (shut_int Try.underlying22 w3) (trodAll_cons_mk (shut_int Try.underlying22 w4) (trodAll_cons_mk (shut_int Try.underlying2 w5) trodAll_mk0))))))) (fun _ _ => rfl) rfl
    (hg.frame _) hg.2.1 (ok_one (by kernel_rfl) rfl (okWide_bool_mk Try.underlying4 _))⟩

theorem over : Rows.fnHitRateBoundsAndZerosRow.holds Try.pinned (OpenSpec.ofChange Rows.fnHitRateBoundsAndZerosSpec) :=
  OpenClaim.holds_of_wide 3 Try.f3 rfl rfl rfl rfl rfl rfl rfl ⟨rfl, rfl, rfl, rfl, rfl⟩ rfl rfl rfl rfl rfl (by kernel_rfl) Try.func3 (by kernel_rfl)
    (of_decide_eq_true (by kernel_rfl)) (by unfold Func.isWrapper; first | (rw [if_pos (by decide +kernel)]; kernel_rfl) | (rw [if_neg (by decide +kernel)]; exact ⟨rfl, rfl⟩))
    (fun os started H enc _ => lifted os started H enc)

/-- ████ THE STATEMENT ████ -/
theorem proved : Rows.FnHitRateBoundsAndZerosSaid :=
  over
#print axioms proved
end Go.Proofs.Qxb6000018a.fnHitRateBoundsAndZeros
