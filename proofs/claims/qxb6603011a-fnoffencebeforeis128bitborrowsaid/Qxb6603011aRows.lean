/-
  No cell of these rows narrows 'for every input' (looked for: loops, veiled, ifaces, maps, wideKeys, modest, calm, conditions, laid).
  DERIVED. THE GIVEN ROWS OF THIS SEAT. 3 by the template 'for every input the law returns true; each argument reads behind the call as it read before'; 0 by the template 'total and deterministic' (their statements: Qxb6603011aTotals.lean).
  GIVEN WITH THE SEED: the statements are not yours to turn. If you find one false, say at which input.
  Laid BY PROGRAM, IN A SANDBOX (cutbox-rows.mjs): the forced cells as the released guide's own fill.sh prints them over the translation 227f314719d0b14c… (all of the seat's roots in one cut). By AI agents, Wed Nov 11 2026. No macro, syntax, notation, axiom, sorry.
-/
import Derived.Test.Qxb6603011aChecked
import GoSem.Claim
import GoSem.ClaimJoined
import GoSem.ClaimMapViews
import Derived.JoinedTies
import Derived.KernelRfl
namespace Go.Proofs.Qxb6603011a
/- THE CELL 'sum', in the pinned program and in every row, IS THE sha256 OF THE DUMP (.gsa) THAT Qxb6603011aProg.lean LOADS. Nothing in Lean hashes anything: it is a label: what it is worth is what the hold of that sum in a sandbox is worth. -/
noncomputable def Try.pinned : Pinned := { name := "qxb6603011a", sum := "227f314719d0b14cc5ad0a9132cb1eff9fa44734d138fdd5463a2c22b90e069d", checked := Try.checked }
namespace Rows
def none {H : Type} : Left H := { results := [], args := [] }

/-- 'zzlaws_root_b1.FnOffenceBeforeIs128BitBorrow': WHATEVER THE INPUT: true; the input reads as it did. -/
def fnOffenceBeforeIs128BitBorrowSpec : ChangeSpec := { name := "fnOffenceBeforeIs128BitBorrow", fn := fun _ => fun
  | [d1, d2, d3, d4] => { results := [.lit (.bool true)], args := [d1, d2, d3, d4] }
  | _ => none }
def fnOffenceBeforeIs128BitBorrowRow : OpenClaim := { program := "qxb6603011a", sum := "227f314719d0b14cc5ad0a9132cb1eff9fa44734d138fdd5463a2c22b90e069d", func := "example.com/quorumloom/quorumloom/zzlaws_root_b1.FnOffenceBeforeIs128BitBorrow", spec := "fnOffenceBeforeIs128BitBorrow", apart := false }
def FnOffenceBeforeIs128BitBorrowSaid : Prop := fnOffenceBeforeIs128BitBorrowRow.holds Try.pinned (OpenSpec.ofChange fnOffenceBeforeIs128BitBorrowSpec)

/-- ITS FALSE NEIGHBOUR: 'it returns false'. Refute it at one input. -/
def fnOffenceBeforeIs128BitBorrowWrong : ChangeSpec := { name := "fnOffenceBeforeIs128BitBorrow", fn := fun _ => fun
  | [d1, d2, d3, d4] => { results := [.lit (.bool false)], args := [d1, d2, d3, d4] }
  | _ => none }
def FnOffenceBeforeIs128BitBorrowWrongFalsely : Prop := fnOffenceBeforeIs128BitBorrowRow.holds Try.pinned (OpenSpec.ofChange fnOffenceBeforeIs128BitBorrowWrong)

/-- 'zzlaws_root_b1.FnOffenceBeforeStrictTotal': WHATEVER THE INPUT: true; the input reads as it did. -/
def fnOffenceBeforeStrictTotalSpec : ChangeSpec := { name := "fnOffenceBeforeStrictTotal", fn := fun _ => fun
  | [d1, d2, d3, d4] => { results := [.lit (.bool true)], args := [d1, d2, d3, d4] }
  | _ => none }
def fnOffenceBeforeStrictTotalRow : OpenClaim := { program := "qxb6603011a", sum := "227f314719d0b14cc5ad0a9132cb1eff9fa44734d138fdd5463a2c22b90e069d", func := "example.com/quorumloom/quorumloom/zzlaws_root_b1.FnOffenceBeforeStrictTotal", spec := "fnOffenceBeforeStrictTotal", apart := false }
def FnOffenceBeforeStrictTotalSaid : Prop := fnOffenceBeforeStrictTotalRow.holds Try.pinned (OpenSpec.ofChange fnOffenceBeforeStrictTotalSpec)

/-- ITS FALSE NEIGHBOUR: 'it returns false'. Refute it at one input. -/
def fnOffenceBeforeStrictTotalWrong : ChangeSpec := { name := "fnOffenceBeforeStrictTotal", fn := fun _ => fun
  | [d1, d2, d3, d4] => { results := [.lit (.bool false)], args := [d1, d2, d3, d4] }
  | _ => none }
def FnOffenceBeforeStrictTotalWrongFalsely : Prop := fnOffenceBeforeStrictTotalRow.holds Try.pinned (OpenSpec.ofChange fnOffenceBeforeStrictTotalWrong)

/-- 'zzlaws_root_b1.FnOffenceBeforeTransitive': WHATEVER THE INPUT: true; the input reads as it did. -/
def fnOffenceBeforeTransitiveSpec : ChangeSpec := { name := "fnOffenceBeforeTransitive", fn := fun _ => fun
  | [d1, d2, d3, d4, d5, d6] => { results := [.lit (.bool true)], args := [d1, d2, d3, d4, d5, d6] }
  | _ => none }
def fnOffenceBeforeTransitiveRow : OpenClaim := { program := "qxb6603011a", sum := "227f314719d0b14cc5ad0a9132cb1eff9fa44734d138fdd5463a2c22b90e069d", func := "example.com/quorumloom/quorumloom/zzlaws_root_b1.FnOffenceBeforeTransitive", spec := "fnOffenceBeforeTransitive", apart := false }
def FnOffenceBeforeTransitiveSaid : Prop := fnOffenceBeforeTransitiveRow.holds Try.pinned (OpenSpec.ofChange fnOffenceBeforeTransitiveSpec)

/-- ITS FALSE NEIGHBOUR: 'it returns false'. Refute it at one input. -/
def fnOffenceBeforeTransitiveWrong : ChangeSpec := { name := "fnOffenceBeforeTransitive", fn := fun _ => fun
  | [d1, d2, d3, d4, d5, d6] => { results := [.lit (.bool false)], args := [d1, d2, d3, d4, d5, d6] }
  | _ => none }
def FnOffenceBeforeTransitiveWrongFalsely : Prop := fnOffenceBeforeTransitiveRow.holds Try.pinned (OpenSpec.ofChange fnOffenceBeforeTransitiveWrong)

end Rows
end Go.Proofs.Qxb6603011a
