/-
  No cell of these rows narrows 'for every input' (looked for: loops, veiled, ifaces, maps, wideKeys, modest, calm, conditions, laid).
  DERIVED. THE GIVEN ROWS OF THIS SEAT. 3 by the template 'for every input the law returns true; each argument reads behind the call as it read before'; 0 by the template 'total and deterministic' (their statements: Qxb6000496aTotals.lean).
  GIVEN WITH THE SEED: the statements are not yours to turn. If you find one false, say at which input.
  Laid BY PROGRAM, IN A SANDBOX (cutbox-rows.mjs): the forced cells as the released guide's own fill.sh prints them over the translation fa44360b59ab3137… (all of the seat's roots in one cut). By AI agents, Wed Nov 11 2026. No macro, syntax, notation, axiom, sorry.
-/
import Derived.Test.Qxb6000496aChecked
import GoSem.Claim
import GoSem.ClaimJoined
import GoSem.ClaimMapViews
import Derived.JoinedTies
import Derived.KernelRfl
namespace Go.Proofs.Qxb6000496a
/- THE CELL 'sum', in the pinned program and in every row, IS THE sha256 OF THE DUMP (.gsa) THAT Qxb6000496aProg.lean LOADS. Nothing in Lean hashes anything: it is a label: what it is worth is what the hold of that sum in a sandbox is worth. -/
noncomputable def Try.pinned : Pinned := { name := "qxb6000496a", sum := "fa44360b59ab3137020db6ea4124ad7b3e8b19a8e1a8d1c43ff0f202150a5643", checked := Try.checked }
namespace Rows
def none {H : Type} : Left H := { results := [], args := [] }

/-- 'zzlaws_internal_protocol_b1.FnNewNameSetTableSize': WHATEVER THE INPUT: true; the input reads as it did. -/
def fnNewNameSetTableSizeSpec : ChangeSpec := { name := "fnNewNameSetTableSize", fn := fun _ => fun
  | [d1, d2] => { results := [.lit (.bool true)], args := [d1, d2] }
  | _ => none }
def fnNewNameSetTableSizeRow : OpenClaim := { program := "qxb6000496a", sum := "fa44360b59ab3137020db6ea4124ad7b3e8b19a8e1a8d1c43ff0f202150a5643", func := "example.com/stratoring/stratoring/zzlaws_internal_protocol_b1.FnNewNameSetTableSize", spec := "fnNewNameSetTableSize", apart := false }
def FnNewNameSetTableSizeSaid : Prop := fnNewNameSetTableSizeRow.holds Try.pinned (OpenSpec.ofChange fnNewNameSetTableSizeSpec)

/-- ITS FALSE NEIGHBOUR: 'it returns false'. Refute it at one input. -/
def fnNewNameSetTableSizeWrong : ChangeSpec := { name := "fnNewNameSetTableSize", fn := fun _ => fun
  | [d1, d2] => { results := [.lit (.bool false)], args := [d1, d2] }
  | _ => none }
def FnNewNameSetTableSizeWrongFalsely : Prop := fnNewNameSetTableSizeRow.holds Try.pinned (OpenSpec.ofChange fnNewNameSetTableSizeWrong)

/-- 'zzlaws_internal_protocol_b1.FnNameSetAddReportsFirstSight': WHATEVER THE INPUT: true; the input reads as it did. -/
def fnNameSetAddReportsFirstSightSpec : ChangeSpec := { name := "fnNameSetAddReportsFirstSight", fn := fun _ => fun
  | [d] => { results := [.lit (.bool true)], args := [d] }
  | _ => none }
def fnNameSetAddReportsFirstSightRow : OpenClaim := { program := "qxb6000496a", sum := "fa44360b59ab3137020db6ea4124ad7b3e8b19a8e1a8d1c43ff0f202150a5643", func := "example.com/stratoring/stratoring/zzlaws_internal_protocol_b1.FnNameSetAddReportsFirstSight", spec := "fnNameSetAddReportsFirstSight", apart := false }
def FnNameSetAddReportsFirstSightSaid : Prop := fnNameSetAddReportsFirstSightRow.holds Try.pinned (OpenSpec.ofChange fnNameSetAddReportsFirstSightSpec)

/-- ITS FALSE NEIGHBOUR: 'it returns false'. Refute it at one input. -/
def fnNameSetAddReportsFirstSightWrong : ChangeSpec := { name := "fnNameSetAddReportsFirstSight", fn := fun _ => fun
  | [d] => { results := [.lit (.bool false)], args := [d] }
  | _ => none }
def FnNameSetAddReportsFirstSightWrongFalsely : Prop := fnNameSetAddReportsFirstSightRow.holds Try.pinned (OpenSpec.ofChange fnNameSetAddReportsFirstSightWrong)

/-- 'zzlaws_internal_protocol_b1.FnNameSetHoldsExactlyTheNames': WHATEVER THE INPUT: true; the input reads as it did. -/
def fnNameSetHoldsExactlyTheNamesSpec : ChangeSpec := { name := "fnNameSetHoldsExactlyTheNames", fn := fun _ => fun
  | [d1, d2] => { results := [.lit (.bool true)], args := [d1, d2] }
  | _ => none }
def fnNameSetHoldsExactlyTheNamesRow : OpenClaim := { program := "qxb6000496a", sum := "fa44360b59ab3137020db6ea4124ad7b3e8b19a8e1a8d1c43ff0f202150a5643", func := "example.com/stratoring/stratoring/zzlaws_internal_protocol_b1.FnNameSetHoldsExactlyTheNames", spec := "fnNameSetHoldsExactlyTheNames", apart := false }
def FnNameSetHoldsExactlyTheNamesSaid : Prop := fnNameSetHoldsExactlyTheNamesRow.holds Try.pinned (OpenSpec.ofChange fnNameSetHoldsExactlyTheNamesSpec)

/-- ITS FALSE NEIGHBOUR: 'it returns false'. Refute it at one input. -/
def fnNameSetHoldsExactlyTheNamesWrong : ChangeSpec := { name := "fnNameSetHoldsExactlyTheNames", fn := fun _ => fun
  | [d1, d2] => { results := [.lit (.bool false)], args := [d1, d2] }
  | _ => none }
def FnNameSetHoldsExactlyTheNamesWrongFalsely : Prop := fnNameSetHoldsExactlyTheNamesRow.holds Try.pinned (OpenSpec.ofChange fnNameSetHoldsExactlyTheNamesWrong)

end Rows
end Go.Proofs.Qxb6000496a
