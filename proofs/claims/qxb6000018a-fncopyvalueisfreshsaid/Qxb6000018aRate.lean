import Derived.Test.Qxb6000018aRows
import Derived.Test.Qxb6000018aFloat
import Derived.WalkKit
import Derived.WalkLawsBesides
import Derived.ProofKit
import Derived.OpenShut
namespace Go.Proofs.Qxb6000018a
open Go.ChangeShapes Go.WideShapes Go.ChangeAt Go.RowKit

def Hid (p : Prop) : Prop := p
theorem hide {p : Prop} (h : p) : Hid p := h
theorem unhide {p : Prop} (h : Hid p) : p := h
theorem grown_trans {a b c : World} (h1 : Grown a b) (h2 : Grown b c) : Grown a c :=
  ⟨World.keptBut_trans h1.1 h2.1, fun x => (h2.2.1 x).trans (h1.2.1 x), Nat.le_trans h1.2.2 h2.2.2⟩

theorem floatOfInt_nat (n : Nat) : floatOfInt .f64 (n : Int) = Fl.fInt n := by
  unfold floatOfInt FloatKind.nearest FloatKind.encode Fl.fInt
  have h : decide ((n : Int) < 0) = false := by simp
  rw [h, Int.natAbs_natCast]; rfl

set_option maxHeartbeats 400000 in
theorem rate_zero (v2 v3 v4 v5 : Value) (w : World) :
    Calls Try.prog 8 #[.agg #[.int .u64 0, .int .u64 0, v2, v3, v4, v5]] w fun e w' => e = .returned (.float .f64 0) ∧ Grown w w' := by
  go_enter Try.func8, Try.ntmps8
  go_wp2
  go_ret
  exact ⟨rfl, by repeat (first | exact Grown.refl _ | apply Grown.drew | apply Grown.alloc)⟩

set_option maxHeartbeats 400000 in
theorem rate_any (h m s r : Nat) (v2 v3 v4 v5 : Value) (w : World) (hne : ¬ (h = 0 ∧ m = 0))
    (hadd : Ieee.double.add (Fl.fInt h) (Fl.fInt m) = some s) (hdiv : Ieee.double.div (Fl.fInt h) s = some r) :
    Calls Try.prog 8 #[.agg #[.int .u64 h, .int .u64 m, v2, v3, v4, v5]] w fun e w' => e = .returned (.float .f64 r) ∧ Grown w w' := by
  have ka : ∀ t w, (binOp .add t (.float .f64 (floatOfInt .f64 (h : Int))) (.float .f64 (floatOfInt .f64 (m : Int)))).run Try.prog w = .ok (.float .f64 s) w := fun t w =>
    run_float_arith w .add t .f64 _ _ s (by rw [floatOfInt_nat, floatOfInt_nat]; exact hadd)
  have kd : ∀ t w, (binOp .quo t (.float .f64 (floatOfInt .f64 (h : Int))) (.float .f64 s)).run Try.prog w = .ok (.float .f64 r) w := fun t w =>
    run_float_arith w .quo t .f64 _ _ r (by rw [floatOfInt_nat]; exact hdiv)
  clear hadd hdiv
  by_cases h0 : h = 0
  · have e0 : ((h : Int) == 0) = true := by rw [beq_iff_eq]; omega
    have e1 : ((m : Int) == 0) = false := by rw [beq_eq_false_iff_ne]; omega
    clear hne h0
    go_enter Try.func8, Try.ntmps8
    go_wp2
    go_ret
    exact ⟨rfl, by repeat (first | exact Grown.refl _ | apply Grown.drew | apply Grown.alloc)⟩
  · have e0 : ((h : Int) == 0) = false := by rw [beq_eq_false_iff_ne]; omega
    clear hne h0
    go_enter Try.func8, Try.ntmps8
    go_wp2
    go_ret
    exact ⟨rfl, by repeat (first | exact Grown.refl _ | apply Grown.drew | apply Grown.alloc)⟩
end Go.Proofs.Qxb6000018a
