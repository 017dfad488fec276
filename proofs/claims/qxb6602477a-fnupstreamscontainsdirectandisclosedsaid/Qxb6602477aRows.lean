/-
  No cell of these rows narrows 'for every input' (looked for: loops, veiled, ifaces, maps, wideKeys, modest, calm, conditions, laid).
  DERIVED. THE GIVEN ROWS OF THIS SEAT. 2 by the template 'for every input the law returns true; each argument reads behind the call as it read before'; 0 by the template 'total and deterministic' (their statements: Qxb6602477aTotals.lean).
  GIVEN WITH THE SEED: the statements are not yours to turn. If you find one false, say at which input.
  Laid BY PROGRAM, IN A SANDBOX (cutbox-rows.mjs): the forced cells as the released guide's own fill.sh prints them over the translation eaa0a2262264780d… (all of the seat's roots in one cut). By AI agents, Wed Nov 11 2026. No macro, syntax, notation, axiom, sorry.
-/
import Derived.Test.Qxb6602477aChecked
import GoSem.Claim
import GoSem.ClaimJoined
import GoSem.ClaimMapViews
import Derived.JoinedTies
import Derived.KernelRfl
namespace Go.Proofs.Qxb6602477a
/- THE CELL 'sum', in the pinned program and in every row, IS THE sha256 OF THE DUMP (.gsa) THAT Qxb6602477aProg.lean LOADS. Nothing in Lean hashes anything: it is a label: what it is worth is what the hold of that sum in a sandbox is worth. -/
noncomputable def Try.pinned : Pinned := { name := "qxb6602477a", sum := "eaa0a2262264780de479fd0734c3b2a3325c9e94fc55d2c1a1fa1abde8ec247f", checked := Try.checked }
namespace Rows
def none {H : Type} : Left H := { results := [], args := [] }

/-- 'zzlaws_internal_family_b1.FnUpstreamsMatchesFixedPointModel': WHATEVER THE INPUT: true; the input reads as it did. -/
def fnUpstreamsMatchesFixedPointModelSpec : ChangeSpec := { name := "fnUpstreamsMatchesFixedPointModel", fn := fun _ => fun
  | [d1, d2] => { results := [.lit (.bool true)], args := [d1, d2] }
  | _ => none }
def fnUpstreamsMatchesFixedPointModelRow : OpenClaim := { program := "qxb6602477a", sum := "eaa0a2262264780de479fd0734c3b2a3325c9e94fc55d2c1a1fa1abde8ec247f", func := "example.com/lockstep/lockstep/zzlaws_internal_family_b1.FnUpstreamsMatchesFixedPointModel", spec := "fnUpstreamsMatchesFixedPointModel", apart := false }
def FnUpstreamsMatchesFixedPointModelSaid : Prop := fnUpstreamsMatchesFixedPointModelRow.holds Try.pinned (OpenSpec.ofChange fnUpstreamsMatchesFixedPointModelSpec)

/-- ITS FALSE NEIGHBOUR: 'it returns false'. Refute it at one input. -/
def fnUpstreamsMatchesFixedPointModelWrong : ChangeSpec := { name := "fnUpstreamsMatchesFixedPointModel", fn := fun _ => fun
  | [d1, d2] => { results := [.lit (.bool false)], args := [d1, d2] }
  | _ => none }
def FnUpstreamsMatchesFixedPointModelWrongFalsely : Prop := fnUpstreamsMatchesFixedPointModelRow.holds Try.pinned (OpenSpec.ofChange fnUpstreamsMatchesFixedPointModelWrong)

/-- 'zzlaws_internal_family_b1.FnUpstreamsContainsDirectAndIsClosed': WHATEVER THE INPUT: true; the input reads as it did. -/
def fnUpstreamsContainsDirectAndIsClosedSpec : ChangeSpec := { name := "fnUpstreamsContainsDirectAndIsClosed", fn := fun _ => fun
  | [d1, d2] => { results := [.lit (.bool true)], args := [d1, d2] }
  | _ => none }
def fnUpstreamsContainsDirectAndIsClosedRow : OpenClaim := { program := "qxb6602477a", sum := "eaa0a2262264780de479fd0734c3b2a3325c9e94fc55d2c1a1fa1abde8ec247f", func := "example.com/lockstep/lockstep/zzlaws_internal_family_b1.FnUpstreamsContainsDirectAndIsClosed", spec := "fnUpstreamsContainsDirectAndIsClosed", apart := false }
def FnUpstreamsContainsDirectAndIsClosedSaid : Prop := fnUpstreamsContainsDirectAndIsClosedRow.holds Try.pinned (OpenSpec.ofChange fnUpstreamsContainsDirectAndIsClosedSpec)

/-- ITS FALSE NEIGHBOUR: 'it returns false'. Refute it at one input. -/
def fnUpstreamsContainsDirectAndIsClosedWrong : ChangeSpec := { name := "fnUpstreamsContainsDirectAndIsClosed", fn := fun _ => fun
  | [d1, d2] => { results := [.lit (.bool false)], args := [d1, d2] }
  | _ => none }
def FnUpstreamsContainsDirectAndIsClosedWrongFalsely : Prop := fnUpstreamsContainsDirectAndIsClosedRow.holds Try.pinned (OpenSpec.ofChange fnUpstreamsContainsDirectAndIsClosedWrong)

end Rows
end Go.Proofs.Qxb6602477a
