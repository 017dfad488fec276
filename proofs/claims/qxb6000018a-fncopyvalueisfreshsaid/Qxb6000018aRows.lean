/-
  No cell of these rows narrows 'for every input' (looked for: loops, veiled, ifaces, maps, wideKeys, modest, calm, conditions, laid).
  DERIVED. THE GIVEN ROWS OF THIS SEAT. 5 by the template 'for every input the law returns true; each argument reads behind the call as it read before'; 0 by the template 'total and deterministic' (their statements: Qxb6000018aTotals.lean).
  GIVEN WITH THE SEED: the statements are not yours to turn. If you find one false, say at which input.
  Laid BY PROGRAM, IN A SANDBOX (cutbox-rows.mjs): the forced cells as the released guide's own fill.sh prints them over the translation 71bc62554147df81… (all of the seat's roots in one cut). By AI agents, Wed Nov 11 2026. No macro, syntax, notation, axiom, sorry.
-/
import Derived.Test.Qxb6000018aChecked
import GoSem.Claim
import GoSem.ClaimJoined
import GoSem.ClaimMapViews
import Derived.JoinedTies
import Derived.KernelRfl
namespace Go.Proofs.Qxb6000018a
/- THE CELL 'sum', in the pinned program and in every row, IS THE sha256 OF THE DUMP (.gsa) THAT Qxb6000018aProg.lean LOADS. Nothing in Lean hashes anything: it is a label: what it is worth is what the hold of that sum in a sandbox is worth. -/
noncomputable def Try.pinned : Pinned := { name := "qxb6000018a", sum := "71bc62554147df81a9fc6ed0c4c6b7f6e944a94e395404e0a52654436ccdef64", checked := Try.checked }
namespace Rows
def none {H : Type} : Left H := { results := [], args := [] }

/-- 'zzlaws_root_b1.FnHitRateBoundsAndZeros': WHATEVER THE INPUT: true; the input reads as it did. -/
def fnHitRateBoundsAndZerosSpec : ChangeSpec := { name := "fnHitRateBoundsAndZeros", fn := fun _ => fun
  | [d1, d2, d3, d4, d5, d6] => { results := [.lit (.bool true)], args := [d1, d2, d3, d4, d5, d6] }
  | _ => none }
def fnHitRateBoundsAndZerosRow : OpenClaim := { program := "qxb6000018a", sum := "71bc62554147df81a9fc6ed0c4c6b7f6e944a94e395404e0a52654436ccdef64", func := "example.com/ringhold/ringhold/zzlaws_root_b1.FnHitRateBoundsAndZeros", spec := "fnHitRateBoundsAndZeros", apart := false }
def FnHitRateBoundsAndZerosSaid : Prop := fnHitRateBoundsAndZerosRow.holds Try.pinned (OpenSpec.ofChange fnHitRateBoundsAndZerosSpec)

/-- ITS FALSE NEIGHBOUR: 'it returns false'. Refute it at one input. -/
def fnHitRateBoundsAndZerosWrong : ChangeSpec := { name := "fnHitRateBoundsAndZeros", fn := fun _ => fun
  | [d1, d2, d3, d4, d5, d6] => { results := [.lit (.bool false)], args := [d1, d2, d3, d4, d5, d6] }
  | _ => none }
def FnHitRateBoundsAndZerosWrongFalsely : Prop := fnHitRateBoundsAndZerosRow.holds Try.pinned (OpenSpec.ofChange fnHitRateBoundsAndZerosWrong)

/-- 'zzlaws_root_b1.FnHitRateScalesByPowersOfTwo': WHATEVER THE INPUT: true; the input reads as it did. -/
def fnHitRateScalesByPowersOfTwoSpec : ChangeSpec := { name := "fnHitRateScalesByPowersOfTwo", fn := fun _ => fun
  | [d1, d2, d3] => { results := [.lit (.bool true)], args := [d1, d2, d3] }
  | _ => none }
def fnHitRateScalesByPowersOfTwoRow : OpenClaim := { program := "qxb6000018a", sum := "71bc62554147df81a9fc6ed0c4c6b7f6e944a94e395404e0a52654436ccdef64", func := "example.com/ringhold/ringhold/zzlaws_root_b1.FnHitRateScalesByPowersOfTwo", spec := "fnHitRateScalesByPowersOfTwo", apart := false }
def FnHitRateScalesByPowersOfTwoSaid : Prop := fnHitRateScalesByPowersOfTwoRow.holds Try.pinned (OpenSpec.ofChange fnHitRateScalesByPowersOfTwoSpec)

/-- ITS FALSE NEIGHBOUR: 'it returns false'. Refute it at one input. -/
def fnHitRateScalesByPowersOfTwoWrong : ChangeSpec := { name := "fnHitRateScalesByPowersOfTwo", fn := fun _ => fun
  | [d1, d2, d3] => { results := [.lit (.bool false)], args := [d1, d2, d3] }
  | _ => none }
def FnHitRateScalesByPowersOfTwoWrongFalsely : Prop := fnHitRateScalesByPowersOfTwoRow.holds Try.pinned (OpenSpec.ofChange fnHitRateScalesByPowersOfTwoWrong)

/-- 'zzlaws_root_b1.FnHitRateDependsOnRatioOnly': WHATEVER THE INPUT: true; the input reads as it did. -/
def fnHitRateDependsOnRatioOnlySpec : ChangeSpec := { name := "fnHitRateDependsOnRatioOnly", fn := fun _ => fun
  | [d1, d2, d3] => { results := [.lit (.bool true)], args := [d1, d2, d3] }
  | _ => none }
def fnHitRateDependsOnRatioOnlyRow : OpenClaim := { program := "qxb6000018a", sum := "71bc62554147df81a9fc6ed0c4c6b7f6e944a94e395404e0a52654436ccdef64", func := "example.com/ringhold/ringhold/zzlaws_root_b1.FnHitRateDependsOnRatioOnly", spec := "fnHitRateDependsOnRatioOnly", apart := false }
def FnHitRateDependsOnRatioOnlySaid : Prop := fnHitRateDependsOnRatioOnlyRow.holds Try.pinned (OpenSpec.ofChange fnHitRateDependsOnRatioOnlySpec)

/-- ITS FALSE NEIGHBOUR: 'it returns false'. Refute it at one input. -/
def fnHitRateDependsOnRatioOnlyWrong : ChangeSpec := { name := "fnHitRateDependsOnRatioOnly", fn := fun _ => fun
  | [d1, d2, d3] => { results := [.lit (.bool false)], args := [d1, d2, d3] }
  | _ => none }
def FnHitRateDependsOnRatioOnlyWrongFalsely : Prop := fnHitRateDependsOnRatioOnlyRow.holds Try.pinned (OpenSpec.ofChange fnHitRateDependsOnRatioOnlyWrong)

/-- 'zzlaws_root_b1.FnCopyValueIsExactCopy': WHATEVER THE INPUT: true; the input reads as it did. -/
def fnCopyValueIsExactCopySpec : ChangeSpec := { name := "fnCopyValueIsExactCopy", fn := fun _ => fun
  | [d1, d2, d3, d4] => { results := [.lit (.bool true)], args := [d1, d2, d3, d4] }
  | _ => none }
def fnCopyValueIsExactCopyRow : OpenClaim := { program := "qxb6000018a", sum := "71bc62554147df81a9fc6ed0c4c6b7f6e944a94e395404e0a52654436ccdef64", func := "example.com/ringhold/ringhold/zzlaws_root_b1.FnCopyValueIsExactCopy", spec := "fnCopyValueIsExactCopy", apart := false }
def FnCopyValueIsExactCopySaid : Prop := fnCopyValueIsExactCopyRow.holds Try.pinned (OpenSpec.ofChange fnCopyValueIsExactCopySpec)

/-- ITS FALSE NEIGHBOUR: 'it returns false'. Refute it at one input. -/
def fnCopyValueIsExactCopyWrong : ChangeSpec := { name := "fnCopyValueIsExactCopy", fn := fun _ => fun
  | [d1, d2, d3, d4] => { results := [.lit (.bool false)], args := [d1, d2, d3, d4] }
  | _ => none }
def FnCopyValueIsExactCopyWrongFalsely : Prop := fnCopyValueIsExactCopyRow.holds Try.pinned (OpenSpec.ofChange fnCopyValueIsExactCopyWrong)

/-- 'zzlaws_root_b1.FnCopyValueIsFresh': WHATEVER THE INPUT: true; the input reads as it did. -/
def fnCopyValueIsFreshSpec : ChangeSpec := { name := "fnCopyValueIsFresh", fn := fun _ => fun
  | [d1, d2, d3, d4] => { results := [.lit (.bool true)], args := [d1, d2, d3, d4] }
  | _ => none }
def fnCopyValueIsFreshRow : OpenClaim := { program := "qxb6000018a", sum := "71bc62554147df81a9fc6ed0c4c6b7f6e944a94e395404e0a52654436ccdef64", func := "example.com/ringhold/ringhold/zzlaws_root_b1.FnCopyValueIsFresh", spec := "fnCopyValueIsFresh", apart := false }
def FnCopyValueIsFreshSaid : Prop := fnCopyValueIsFreshRow.holds Try.pinned (OpenSpec.ofChange fnCopyValueIsFreshSpec)

/-- ITS FALSE NEIGHBOUR: 'it returns false'. Refute it at one input. -/
def fnCopyValueIsFreshWrong : ChangeSpec := { name := "fnCopyValueIsFresh", fn := fun _ => fun
  | [d1, d2, d3, d4] => { results := [.lit (.bool false)], args := [d1, d2, d3, d4] }
  | _ => none }
def FnCopyValueIsFreshWrongFalsely : Prop := fnCopyValueIsFreshRow.holds Try.pinned (OpenSpec.ofChange fnCopyValueIsFreshWrong)

end Rows
end Go.Proofs.Qxb6000018a
