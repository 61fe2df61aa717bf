/-
  No cell of these rows narrows 'for every input' (looked for: loops, veiled, ifaces, maps, wideKeys, modest, calm, conditions, laid).
  DERIVED. THE GIVEN ROWS OF THIS SEAT. 4 by the template 'for every input the law returns true; each argument reads behind the call as it read before'; 0 by the template 'total and deterministic' (their statements: Qxb6602971aTotals.lean).
  GIVEN WITH THE SEED: the statements are not yours to turn. If you find one false, say at which input.
  Laid BY PROGRAM, IN A SANDBOX (cutbox-rows.mjs): the forced cells as the released guide's own fill.sh prints them over the translation c44c87c0b5a177ae… (all of the seat's roots in one cut). By AI agents, Wed Nov 11 2026. No macro, syntax, notation, axiom, sorry.
-/
import Derived.Test.Qxb6602971aChecked
import GoSem.Claim
import GoSem.ClaimJoined
import GoSem.ClaimMapViews
import Derived.JoinedTies
import Derived.KernelRfl
namespace Go.Proofs.Qxb6602971a
/- THE CELL 'sum', in the pinned program and in every row, IS THE sha256 OF THE DUMP (.gsa) THAT Qxb6602971aProg.lean LOADS. Nothing in Lean hashes anything: it is a label: what it is worth is what the hold of that sum in a sandbox is worth. -/
noncomputable def Try.pinned : Pinned := { name := "qxb6602971a", sum := "c44c87c0b5a177ae67f453f7d243188148f3385bf70c51c3848b4546bb291569", checked := Try.checked }
namespace Rows
def none {H : Type} : Left H := { results := [], args := [] }

/-- 'zzlaws_root_b1.FnFloorDivMatchesUnsignedCeilModel': WHATEVER THE INPUT: true; the input reads as it did. -/
def fnFloorDivMatchesUnsignedCeilModelSpec : ChangeSpec := { name := "fnFloorDivMatchesUnsignedCeilModel", fn := fun _ => fun
  | [d1, d2] => { results := [.lit (.bool true)], args := [d1, d2] }
  | _ => none }
def fnFloorDivMatchesUnsignedCeilModelRow : OpenClaim := { program := "qxb6602971a", sum := "c44c87c0b5a177ae67f453f7d243188148f3385bf70c51c3848b4546bb291569", func := "example.com/tripline/tripline/zzlaws_root_b1.FnFloorDivMatchesUnsignedCeilModel", spec := "fnFloorDivMatchesUnsignedCeilModel", apart := false }
def FnFloorDivMatchesUnsignedCeilModelSaid : Prop := fnFloorDivMatchesUnsignedCeilModelRow.holds Try.pinned (OpenSpec.ofChange fnFloorDivMatchesUnsignedCeilModelSpec)

/-- ITS FALSE NEIGHBOUR: 'it returns false'. Refute it at one input. -/
def fnFloorDivMatchesUnsignedCeilModelWrong : ChangeSpec := { name := "fnFloorDivMatchesUnsignedCeilModel", fn := fun _ => fun
  | [d1, d2] => { results := [.lit (.bool false)], args := [d1, d2] }
  | _ => none }
def FnFloorDivMatchesUnsignedCeilModelWrongFalsely : Prop := fnFloorDivMatchesUnsignedCeilModelRow.holds Try.pinned (OpenSpec.ofChange fnFloorDivMatchesUnsignedCeilModelWrong)

/-- 'zzlaws_root_b1.FnFloorDivRemainderInRange': WHATEVER THE INPUT: true; the input reads as it did. -/
def fnFloorDivRemainderInRangeSpec : ChangeSpec := { name := "fnFloorDivRemainderInRange", fn := fun _ => fun
  | [d1, d2] => { results := [.lit (.bool true)], args := [d1, d2] }
  | _ => none }
def fnFloorDivRemainderInRangeRow : OpenClaim := { program := "qxb6602971a", sum := "c44c87c0b5a177ae67f453f7d243188148f3385bf70c51c3848b4546bb291569", func := "example.com/tripline/tripline/zzlaws_root_b1.FnFloorDivRemainderInRange", spec := "fnFloorDivRemainderInRange", apart := false }
def FnFloorDivRemainderInRangeSaid : Prop := fnFloorDivRemainderInRangeRow.holds Try.pinned (OpenSpec.ofChange fnFloorDivRemainderInRangeSpec)

/-- ITS FALSE NEIGHBOUR: 'it returns false'. Refute it at one input. -/
def fnFloorDivRemainderInRangeWrong : ChangeSpec := { name := "fnFloorDivRemainderInRange", fn := fun _ => fun
  | [d1, d2] => { results := [.lit (.bool false)], args := [d1, d2] }
  | _ => none }
def FnFloorDivRemainderInRangeWrongFalsely : Prop := fnFloorDivRemainderInRangeRow.holds Try.pinned (OpenSpec.ofChange fnFloorDivRemainderInRangeWrong)

/-- 'zzlaws_root_b1.FnFloorDivMonotoneInDividend': WHATEVER THE INPUT: true; the input reads as it did. -/
def fnFloorDivMonotoneInDividendSpec : ChangeSpec := { name := "fnFloorDivMonotoneInDividend", fn := fun _ => fun
  | [d1, d2, d3] => { results := [.lit (.bool true)], args := [d1, d2, d3] }
  | _ => none }
def fnFloorDivMonotoneInDividendRow : OpenClaim := { program := "qxb6602971a", sum := "c44c87c0b5a177ae67f453f7d243188148f3385bf70c51c3848b4546bb291569", func := "example.com/tripline/tripline/zzlaws_root_b1.FnFloorDivMonotoneInDividend", spec := "fnFloorDivMonotoneInDividend", apart := false }
def FnFloorDivMonotoneInDividendSaid : Prop := fnFloorDivMonotoneInDividendRow.holds Try.pinned (OpenSpec.ofChange fnFloorDivMonotoneInDividendSpec)

/-- ITS FALSE NEIGHBOUR: 'it returns false'. Refute it at one input. -/
def fnFloorDivMonotoneInDividendWrong : ChangeSpec := { name := "fnFloorDivMonotoneInDividend", fn := fun _ => fun
  | [d1, d2, d3] => { results := [.lit (.bool false)], args := [d1, d2, d3] }
  | _ => none }
def FnFloorDivMonotoneInDividendWrongFalsely : Prop := fnFloorDivMonotoneInDividendRow.holds Try.pinned (OpenSpec.ofChange fnFloorDivMonotoneInDividendWrong)

/-- 'zzlaws_root_b1.FnPhaseStateIgnoresChangeCount': WHATEVER THE INPUT: true; the input reads as it did. -/
def fnPhaseStateIgnoresChangeCountSpec : ChangeSpec := { name := "fnPhaseStateIgnoresChangeCount", fn := fun _ => fun
  | [d1, d2] => { results := [.lit (.bool true)], args := [d1, d2] }
  | _ => none }
def fnPhaseStateIgnoresChangeCountRow : OpenClaim := { program := "qxb6602971a", sum := "c44c87c0b5a177ae67f453f7d243188148f3385bf70c51c3848b4546bb291569", func := "example.com/tripline/tripline/zzlaws_root_b1.FnPhaseStateIgnoresChangeCount", spec := "fnPhaseStateIgnoresChangeCount", apart := false }
def FnPhaseStateIgnoresChangeCountSaid : Prop := fnPhaseStateIgnoresChangeCountRow.holds Try.pinned (OpenSpec.ofChange fnPhaseStateIgnoresChangeCountSpec)

/-- ITS FALSE NEIGHBOUR: 'it returns false'. Refute it at one input. -/
def fnPhaseStateIgnoresChangeCountWrong : ChangeSpec := { name := "fnPhaseStateIgnoresChangeCount", fn := fun _ => fun
  | [d1, d2] => { results := [.lit (.bool false)], args := [d1, d2] }
  | _ => none }
def FnPhaseStateIgnoresChangeCountWrongFalsely : Prop := fnPhaseStateIgnoresChangeCountRow.holds Try.pinned (OpenSpec.ofChange fnPhaseStateIgnoresChangeCountWrong)

end Rows
end Go.Proofs.Qxb6602971a
