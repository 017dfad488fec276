/- A proof of 'Rows.FnNewNameSetTableSizeSaid'. The frame is the guide's template; the walks are mine. -/
import Derived.Test.Qxb6000496aRows
import Derived.Test.Qxb6000496aNew
import Derived.WalkKit
import Derived.ProofKit
import Derived.OpenShut
import Derived.ShutString
namespace Go.Proofs.Qxb6000496a.fnNewNameSetTableSize
open Go.ChangeShapes Go.WideShapes Go.ChangeAt Go.RowKit
open Go.ChangeMaps (open_string shut_string)
set_option linter.unusedVariables false      -- a walk need not use every 'w<i>' (that an integer argument fits its kind)

theorem own : ownKnob Try.prog.godebug = none := by kernel_rfl

/-! ### STEP 1: THE WALK: the Go text returns true, and writes nothing that was there. -/
theorem and_pow : ∀ k, k < 21 → bits .and .i64 ((16 * 2 ^ k : Nat) : Int) (((16 * 2 ^ k : Nat) : Int) - 1) = 0 := by decide +kernel
theorem and_sized {size : Int} {n : Nat} (h : Sized size n) : bits .and .i64 (n : Int) ((n : Int) - 1) = 0 := by
  obtain ⟨k, hk, rfl⟩ := h.pow
  exact and_pow k (by omega)

set_option maxHeartbeats 800000 in
theorem walk_far (a0 a1 : Int) (w : World) (h : a1 < -65536 ∨ 65536 < a1 ∨ a0 < 0 ∨ 65536 < a0) :
    Calls Try.prog 3 #[.int .i64 a0, .int .i64 a1] w fun e w' => e = .returned (.bool true) ∧ Below w.heap.size w w' := by
  by_cases h1 : a1 < -65536
  · clear h
    go_enter Try.func3, Try.ntmps3
    go_wp2
    go_ret
    exact ⟨rfl, Below.refl _ _⟩
  by_cases h2 : 65536 < a1
  · clear h
    go_enter Try.func3, Try.ntmps3
    go_wp2
    go_ret
    exact ⟨rfl, Below.refl _ _⟩
  by_cases h3 : a0 < 0
  · clear h
    go_enter Try.func3, Try.ntmps3
    go_wp2
    go_ret
    exact ⟨rfl, Below.refl _ _⟩
  have h4 : 65536 < a0 := by omega
  clear h
  go_enter Try.func3, Try.ntmps3
  go_wp2
  go_ret
  exact ⟨rfl, Below.refl _ _⟩

set_option maxHeartbeats 1600000 in
theorem walk_near (cap : Nat) (size : Int) (w : World) (h1 : -65536 ≤ size) (h2 : size ≤ 65536) (h3 : cap ≤ 65536) :
    Calls Try.prog 3 #[.int .i64 cap, .int .i64 size] w fun e w' => e = .returned (.bool true) ∧ Below w.heap.size w w' := by
  go_enter Try.func3, Try.ntmps3
  go_wp2_with fail
  refine (zznew_any cap size w (by omega) (by omega) (by omega)).mono ?_
  rintro e w1 ⟨n, g, c', hs, rfl, ht, hg, hb⟩
  have HS := hide hs
  have HT := hide ht
  have b1 : 16 ≤ n := by
    obtain ⟨k, _, rfl⟩ := hs.pow
    have := Nat.two_pow_pos k; omega
  have b2 := hs.fits
  have b3 : (16 : Int) < (n : Int) → (n : Int) / 2 < 2 * size := by have := hs.least; omega
  have b4 : n ≤ 262144 := by have := hs.least; omega
  have b5 := and_sized hs
  clear hs ht
  go_wp2_with fail
  refine (zzlen_any (some ⟨g, 0, none⟩) n c' w1).mono ?_
  rintro e w2 ⟨rfl, rfl⟩
  have hd : (16 : Int) < (n : Int) ∧ (n : Int) / 2 < 2 * size ∨ (n : Int) ≤ 16 := by omega
  clear b3
  have hcell : ∀ i, i < n → (List.replicate n (none : Option ByteArray))[i]? = some none := by
    intro i hi; rw [List.getElem?_replicate, if_pos hi]
  have HC := hide hcell
  clear hcell
  rcases hd with ⟨d1, d2⟩ | d1
  all_goals
    go_wp2
    go_loopw [7, 8, 9] (fun i _ _ wr => ∃ k : Nat, k ≤ n ∧ i = .int .i64 k ∧ ∃ m, wr = w2.drewN m) (fun i _ _ _ => n - (intOf i).toNat)
    case atStart => exact ⟨0, Nat.zero_le _, rfl, 0, rfl⟩
    case round =>
      obtain ⟨k, hk, rfl, m, rfl⟩ := hrel
      by_cases hlt : k < n
      · go_wp2_with fail
        refine (zzslot_any g n c' k (List.replicate n .none) .none _ (by exact unhide HT) (by simp) (by omega) (unhide HC k hlt)).mono ?_
        rintro e w3 ⟨rfl, m', rfl⟩
        go_wp2
        go_roundw
        case rel => exact ⟨k + 1, by omega, by go_num, _, rfl⟩
        case measure => simp [intOf]; omega
      · go_wp2
        go_ret
        exact ⟨rfl, below_drewN hb _⟩

theorem walk (a0 : Int) (a1 : Int) (w0 : (Lit.int .i64 a0).wf = true) (w1 : (Lit.int .i64 a1).wf = true) (w : World) :
    Calls Try.prog 3 #[.int .i64 a0, .int .i64 a1] w fun e w' => e = .returned (.bool true) ∧ Below w.heap.size w w' := by
  by_cases h : a1 < -65536 ∨ 65536 < a1 ∨ a0 < 0 ∨ 65536 < a0
  · exact walk_far a0 a1 w h
  · obtain ⟨n, rfl⟩ : ∃ n : Nat, a0 = n := ⟨a0.toNat, by omega⟩
    exact walk_near n a1 w (by omega) (by omega) (by omega)

/-! ### THE ROW's STEP: WRITTEN OUT: LEAVE IT -/
set_option maxRecDepth 100000 in
theorem lifted (os : Os) (started : os.Started) (H : Type) (enc : TypeId × Value → H) :
    ReturnsInHanded {} Try.checked os 3 .any (Rows.fnNewNameSetTableSizeSpec.pre6 enc Try.prog Try.f3 Rows.fnNewNameSetTableSizeRow.domain false) (Rows.fnNewNameSetTableSizeSpec.post enc Try.prog Try.f3 false true false false) := by
  refine returnsInHanded_of_change (C := Try.checked) own started (by kernel_rfl) Try.func3
    (ChangeSpec.witness6 (enc := enc) (C := Try.checked) false ⟨#[], #[.int .i64 0, .int .i64 0], []⟩ 8 (by kernel_rfl) (by kernel_rfl) (by kernel_rfl) (by kernel_rfl)) ?_
  intro W base args ds gs before hval0 hW hcnd _
  have hval : ∀ (j : Nat) t v, Try.f3.params[j]? = some t → args[j]? = some v → Value.okWide Try.prog W .any base t v := hval0
  have hW' := hW
  obtain ⟨p, q, hA0, hV, rfl, hfz, hnd⟩ := hW
  have hA : DataW.TrodAll enc Try.prog W 0 (fun _ => true) true Try.f3.params.toList args.toList ds p := hA0
  rw [Try.params3] at hA hval
  obtain ⟨v0, vs0, d0, ds0, p0, q0, hargs, rfl, rfl, h0, r0⟩ := trodAll_cons hA
  obtain ⟨v1, vs1, d1, ds1, p1, q1, rfl, rfl, rfl, h1, r1⟩ := trodAll_cons r0
  obtain ⟨rfl, rfl, rfl⟩ := trodAll_nil r1
  obtain rfl : args = #[v0, v1] := by cases args; simp_all
  obtain ⟨rfl, rfl⟩ := trodVars_none hV
  obtain ⟨a0, rfl, rfl, rfl, w0⟩ := open_int Try.underlying3 (hval 0 3 v0 rfl rfl) h0
  obtain ⟨a1, rfl, rfl, rfl, w1⟩ := open_int Try.underlying3 (hval 1 3 v1 rfl rfl) h1
  clear hA0 hval0
  simp only [List.append_nil] at hW'
  refine (walk a0 a1 w0 w1 W).mono fun e W' ⟨he, hg⟩ => ?_
  subst he
  exact ⟨_, rfl, _, _, _, [], [], [], hW', trodAll_mk1 (shut_bool Try.underlying4 _), (trodAll_cons_mk (shut_int Try.underlying3 w0) (trodAll_cons_mk (shut_int Try.underlying3 w1) trodAll_mk0)), rfl, hg.frame _, fun h => by cases h⟩

theorem over : Rows.fnNewNameSetTableSizeRow.holds Try.pinned (OpenSpec.ofChange Rows.fnNewNameSetTableSizeSpec) :=
  OpenClaim.holds_of_wide 3 Try.f3 rfl rfl rfl rfl rfl rfl rfl ⟨rfl, rfl, rfl, rfl, rfl⟩ rfl rfl rfl rfl rfl (by kernel_rfl) Try.func3 (by kernel_rfl)
    (of_decide_eq_true (by kernel_rfl)) (by unfold Func.isWrapper; first | (rw [if_pos (by decide +kernel)]; kernel_rfl) | (rw [if_neg (by decide +kernel)]; exact ⟨rfl, rfl⟩))
    (fun os started H enc _ => lifted os started H enc)

/-- ████ THE STATEMENT ████ -/
theorem proved : Rows.FnNewNameSetTableSizeSaid :=
  over
#print axioms proved
end Go.Proofs.Qxb6000496a.fnNewNameSetTableSize
