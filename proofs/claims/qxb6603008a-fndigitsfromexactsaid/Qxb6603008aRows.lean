/-
  No cell of these rows narrows 'for every input' (looked for: loops, veiled, ifaces, maps, wideKeys, modest, calm, conditions, laid).
  DERIVED. THE GIVEN ROWS OF THIS SEAT. 4 by the template 'for every input the law returns true; each argument reads behind the call as it read before'; 0 by the template 'total and deterministic' (their statements: Qxb6603008aTotals.lean).
  GIVEN WITH THE SEED: the statements are not yours to turn. If you find one false, say at which input.
  Laid BY PROGRAM, IN A SANDBOX (cutbox-rows.mjs): the forced cells as the released guide's own fill.sh prints them over the translation a68d359814a593a4… (all of the seat's roots in one cut). By AI agents, Wed Nov 11 2026. No macro, syntax, notation, axiom, sorry.
-/
import Derived.Test.Qxb6603008aChecked
import GoSem.Claim
import GoSem.ClaimJoined
import GoSem.ClaimMapViews
import Derived.JoinedTies
import Derived.KernelRfl
namespace Go.Proofs.Qxb6603008a
/- THE CELL 'sum', in the pinned program and in every row, IS THE sha256 OF THE DUMP (.gsa) THAT Qxb6603008aProg.lean LOADS. Nothing in Lean hashes anything: it is a label: what it is worth is what the hold of that sum in a sandbox is worth. -/
noncomputable def Try.pinned : Pinned := { name := "qxb6603008a", sum := "a68d359814a593a4672c8d2d38a21f9e68739e607b3f21d84f7e0b96e2ebb6c3", checked := Try.checked }
namespace Rows
def none {H : Type} : Left H := { results := [], args := [] }

/-- 'zzlaws_pkg_plan_b1.FnDigitsFromExact': WHATEVER THE INPUT: true; the input reads as it did. -/
def fnDigitsFromExactSpec : ChangeSpec := { name := "fnDigitsFromExact", fn := fun _ => fun
  | [d1, d2] => { results := [.lit (.bool true)], args := [d1, d2] }
  | _ => none }
def fnDigitsFromExactRow : OpenClaim := { program := "qxb6603008a", sum := "a68d359814a593a4672c8d2d38a21f9e68739e607b3f21d84f7e0b96e2ebb6c3", func := "example.com/vestline/vestline/zzlaws_pkg_plan_b1.FnDigitsFromExact", spec := "fnDigitsFromExact", apart := false }
def FnDigitsFromExactSaid : Prop := fnDigitsFromExactRow.holds Try.pinned (OpenSpec.ofChange fnDigitsFromExactSpec)

/-- ITS FALSE NEIGHBOUR: 'it returns false'. Refute it at one input. -/
def fnDigitsFromExactWrong : ChangeSpec := { name := "fnDigitsFromExact", fn := fun _ => fun
  | [d1, d2] => { results := [.lit (.bool false)], args := [d1, d2] }
  | _ => none }
def FnDigitsFromExactWrongFalsely : Prop := fnDigitsFromExactRow.holds Try.pinned (OpenSpec.ofChange fnDigitsFromExactWrong)

/-- 'zzlaws_pkg_plan_b1.FnDigitsFromMonotoneIdempotent': WHATEVER THE INPUT: true; the input reads as it did. -/
def fnDigitsFromMonotoneIdempotentSpec : ChangeSpec := { name := "fnDigitsFromMonotoneIdempotent", fn := fun _ => fun
  | [d1, d2, d3] => { results := [.lit (.bool true)], args := [d1, d2, d3] }
  | _ => none }
def fnDigitsFromMonotoneIdempotentRow : OpenClaim := { program := "qxb6603008a", sum := "a68d359814a593a4672c8d2d38a21f9e68739e607b3f21d84f7e0b96e2ebb6c3", func := "example.com/vestline/vestline/zzlaws_pkg_plan_b1.FnDigitsFromMonotoneIdempotent", spec := "fnDigitsFromMonotoneIdempotent", apart := false }
def FnDigitsFromMonotoneIdempotentSaid : Prop := fnDigitsFromMonotoneIdempotentRow.holds Try.pinned (OpenSpec.ofChange fnDigitsFromMonotoneIdempotentSpec)

/-- ITS FALSE NEIGHBOUR: 'it returns false'. Refute it at one input. -/
def fnDigitsFromMonotoneIdempotentWrong : ChangeSpec := { name := "fnDigitsFromMonotoneIdempotent", fn := fun _ => fun
  | [d1, d2, d3] => { results := [.lit (.bool false)], args := [d1, d2, d3] }
  | _ => none }
def FnDigitsFromMonotoneIdempotentWrongFalsely : Prop := fnDigitsFromMonotoneIdempotentRow.holds Try.pinned (OpenSpec.ofChange fnDigitsFromMonotoneIdempotentWrong)

/-- 'zzlaws_pkg_plan_b1.FnMagnitudeSymmetricBounded': WHATEVER THE INPUT: true; the input reads as it did. -/
def fnMagnitudeSymmetricBoundedSpec : ChangeSpec := { name := "fnMagnitudeSymmetricBounded", fn := fun _ => fun
  | [d] => { results := [.lit (.bool true)], args := [d] }
  | _ => none }
def fnMagnitudeSymmetricBoundedRow : OpenClaim := { program := "qxb6603008a", sum := "a68d359814a593a4672c8d2d38a21f9e68739e607b3f21d84f7e0b96e2ebb6c3", func := "example.com/vestline/vestline/zzlaws_pkg_plan_b1.FnMagnitudeSymmetricBounded", spec := "fnMagnitudeSymmetricBounded", apart := false }
def FnMagnitudeSymmetricBoundedSaid : Prop := fnMagnitudeSymmetricBoundedRow.holds Try.pinned (OpenSpec.ofChange fnMagnitudeSymmetricBoundedSpec)

/-- ITS FALSE NEIGHBOUR: 'it returns false'. Refute it at one input. -/
def fnMagnitudeSymmetricBoundedWrong : ChangeSpec := { name := "fnMagnitudeSymmetricBounded", fn := fun _ => fun
  | [d] => { results := [.lit (.bool false)], args := [d] }
  | _ => none }
def FnMagnitudeSymmetricBoundedWrongFalsely : Prop := fnMagnitudeSymmetricBoundedRow.holds Try.pinned (OpenSpec.ofChange fnMagnitudeSymmetricBoundedWrong)

/-- 'zzlaws_pkg_plan_b1.FnMagnitudeTriangle': WHATEVER THE INPUT: true; the input reads as it did. -/
def fnMagnitudeTriangleSpec : ChangeSpec := { name := "fnMagnitudeTriangle", fn := fun _ => fun
  | [d1, d2] => { results := [.lit (.bool true)], args := [d1, d2] }
  | _ => none }
def fnMagnitudeTriangleRow : OpenClaim := { program := "qxb6603008a", sum := "a68d359814a593a4672c8d2d38a21f9e68739e607b3f21d84f7e0b96e2ebb6c3", func := "example.com/vestline/vestline/zzlaws_pkg_plan_b1.FnMagnitudeTriangle", spec := "fnMagnitudeTriangle", apart := false }
def FnMagnitudeTriangleSaid : Prop := fnMagnitudeTriangleRow.holds Try.pinned (OpenSpec.ofChange fnMagnitudeTriangleSpec)

/-- ITS FALSE NEIGHBOUR: 'it returns false'. Refute it at one input. -/
def fnMagnitudeTriangleWrong : ChangeSpec := { name := "fnMagnitudeTriangle", fn := fun _ => fun
  | [d1, d2] => { results := [.lit (.bool false)], args := [d1, d2] }
  | _ => none }
def FnMagnitudeTriangleWrongFalsely : Prop := fnMagnitudeTriangleRow.holds Try.pinned (OpenSpec.ofChange fnMagnitudeTriangleWrong)

end Rows
end Go.Proofs.Qxb6603008a
