/-
  Shared by both claims of this seat: the plain arithmetic of 'floorDiv', and its contract.
-/
import Derived.Test.Qxb6602971aRows
import Derived.WalkKit
import Derived.ProofKit
namespace Go.Proofs.Qxb6602971a.plain
open Go.ChangeShapes Go.WideShapes Go.ChangeAt Go.RowKit

/-- Go's quotient where the remainder is not negative: the floor. -/
theorem tdiv_floor (a b : Int) (hb : 0 < b) (h : 0 ≤ a.tmod b) : a.tdiv b = a / b := by
  have h1 := Int.mul_tdiv_add_tmod a b
  have h2 := Int.tmod_lt_of_pos a hb
  exact ((Int.ediv_emod_unique hb).2 ⟨by omega, h, h2⟩).1.symm

/-- Go's quotient where the remainder is negative: one above the floor. -/
theorem tdiv_above (a b : Int) (hb : 0 < b) (h : a.tmod b < 0) : a.tdiv b - 1 = a / b := by
  have h1 := Int.mul_tdiv_add_tmod a b
  have h2 : -b < a.tmod b := Int.lt_tmod_of_pos a hb
  have h3 : b * (a.tdiv b - 1) = b * a.tdiv b - b := by rw [Int.mul_sub, Int.mul_one]
  exact ((Int.ediv_emod_unique (r := a.tmod b + b) hb).2 ⟨by omega, by omega, by omega⟩).1.symm

/-- The floor of an int64 by a positive int64 is an int64. -/
theorem floor_lo (a b : Int) (hb : 0 < b) (ha1 : -9223372036854775808 ≤ a) : -9223372036854775808 ≤ a / b := by
  apply (Int.le_ediv_iff_mul_le hb).2
  have : (-9223372036854775808 : Int) * b ≤ -9223372036854775808 * 1 := Int.mul_le_mul_of_nonpos_left (by omega) (by omega)
  omega

theorem floor_hi (a b : Int) (hb : 0 < b) (ha2 : a ≤ 9223372036854775807) : a / b ≤ 9223372036854775807 := by
  have h1 : a / b ≤ 9223372036854775807 / b := Int.ediv_le_ediv hb ha2
  have h2 : (9223372036854775807 : Int) / b ≤ 9223372036854775807 := Int.ediv_le_self b (by omega)
  omega

/-- 'floorDiv' behind 'ZZFloorDiv': for b > 0 the floor of a / b; the world is as it was. -/
theorem floorDiv (a b : Int) (hb : 0 < b) (ha1 : -9223372036854775808 ≤ a) (ha2 : a ≤ 9223372036854775807) (hb2 : b ≤ 9223372036854775807) (w : World) :
    Calls Try.prog 7 #[.int .i64 a, .int .i64 b] w fun e w' => e = .returned (.int .i64 (a / b)) ∧ w' = w := by
  have l1 := floor_lo a b hb ha1
  have l2 := floor_hi a b hb ha2
  by_cases h : a.tmod b < 0
  · rw [← tdiv_above a b hb h] at l1 l2 ⊢
    rw [← IntWalk.wrap64_in _ ⟨l1, by omega⟩]
    clear l1 l2
    go_enter Try.func7, Try.ntmps7
    go_wp2
    go_ret
    exact ⟨rfl, rfl⟩
  · rw [← tdiv_floor a b hb (by omega)]
    clear l1 l2
    go_enter Try.func7, Try.ntmps7
    go_wp2
    go_ret
    exact ⟨rfl, rfl⟩
end Go.Proofs.Qxb6602971a.plain
