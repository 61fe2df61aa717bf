/-
  Shared by both claims of this seat: what 'ZZOffenceBefore' answers.
-/
import Derived.Test.Qxb6603011aRows
import Derived.WalkKit
import Derived.ProofKit
namespace Go.Proofs.Qxb6603011a.order
open Go.ChangeShapes Go.WideShapes Go.ChangeAt Go.RowKit

/-- By round, and then by voter. -/
def before (v r v' r' : Int) : Bool := decide (r < r' ∨ (r = r' ∧ v < v'))

theorem grown_trans {u v w : World} (h : Grown u v) (k : Grown v w) : Grown u w :=
  ⟨World.keptBut_trans h.1 k.1, fun a => (k.2.1 a).trans (h.2.1 a), Nat.le_trans h.2.2 k.2.2⟩

theorem zzBefore (v r v' r' : Int) (w : World) :
    Calls Try.prog 8 #[.int .i64 v, .int .u64 r, .int .i64 v', .int .u64 r'] w fun e w' => e = .returned (.bool (before v r v' r')) ∧ Grown w w' := by
  by_cases h : r = r'
  · subst h
    have e : before v r v' r = decide (v < v') := by simp [before]
    rw [e]
    clear e
    go_enter Try.func8, Try.ntmps8
    go_wp2
    go_ret
    exact ⟨rfl, by repeat (first | exact Grown.refl _ | apply Grown.drew | apply Grown.alloc)⟩
  · have e : before v r v' r' = decide (r < r') := by simp [before, h]
    rw [e]
    clear e
    have h' : (r == r') = false := beq_eq_false_iff_ne.2 h
    clear h
    go_enter Try.func8, Try.ntmps8
    go_wp2
    go_ret
    exact ⟨rfl, by repeat (first | exact Grown.refl _ | apply Grown.drew | apply Grown.alloc)⟩
end Go.Proofs.Qxb6603011a.order
