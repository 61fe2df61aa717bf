/-
  The plain arithmetic of a 128-bit key and of a subtraction with borrow. No Go in sight.
-/
import Derived.Laws.BitsAllLaws
import Derived.WalkKit
namespace Go.Proofs.Qxb6603011a.borrow

/-- The low word of a key: the voter, its sign bit flipped. -/
def key (v : Int) : Int := v + 9223372036854775808

/-- The borrow of x - y - b. -/
def bor (x y b : Int) : Int := if x < y + b then 1 else 0

theorem key_lo {v : Int} (h : -9223372036854775808 ≤ v) : 0 ≤ key v := by unfold key; omega
theorem key_hi {v : Int} (h : v ≤ 9223372036854775807) : key v ≤ 18446744073709551615 := by unfold key; omega
theorem bor_lo (x y b : Int) : 0 ≤ bor x y b := by unfold bor; split <;> omega
theorem bor_hi (x y b : Int) : bor x y b ≤ 1 := by unfold bor; split <;> omega

/-- Flipping the top bit of a word. -/
theorem flip (X : Nat) (h : X < 18446744073709551616) : X ^^^ 9223372036854775808 = (X + 9223372036854775808) % 18446744073709551616 := by
  have e1 : (X ^^^ 9223372036854775808) / 2 ^ 63 = (X / 2 ^ 63) ^^^ 1 := by
    rw [← Nat.shiftRight_eq_div_pow, Nat.shiftRight_xor_distrib, Nat.shiftRight_eq_div_pow, Nat.shiftRight_eq_div_pow]
  have e2 : (X ^^^ 9223372036854775808) % 2 ^ 63 = X % 2 ^ 63 := by
    rw [Nat.xor_mod_two_pow]
    simp
  have t : X / 2 ^ 63 = 0 ∨ X / 2 ^ 63 = 1 := by omega
  rcases t with t | t
  · rw [t] at e1
    simp only [Nat.zero_xor] at e1
    omega
  · rw [t] at e1
    simp only [Nat.xor_self] at e1
    omega

theorem key_bits (v : Int) (h : -9223372036854775808 ≤ v ∧ v ≤ 9223372036854775807) :
    bits BinOp.xor IntKind.u64 (IntKind.u64.wrap v) 9223372036854775808 = key v := by
  unfold key
  rw [u64_xor _ _ (wrap_u64_nonneg _) (by rw [IntKind.wrap_u64]; omega) (by omega) (by omega), IntKind.wrap_u64]
  have e : (9223372036854775808 : Int).toNat = 9223372036854775808 := rfl
  rw [e, flip _ (by omega)]
  omega

/-- The carry formula at the top bits. -/
theorem top (M x y d : Nat) :
    (((M ^^^ x) &&& y) ||| ((M ^^^ (x ^^^ y)) &&& d)) / 2 ^ 63
      = (((M / 2 ^ 63 ^^^ x / 2 ^ 63) &&& y / 2 ^ 63) ||| ((M / 2 ^ 63 ^^^ (x / 2 ^ 63 ^^^ y / 2 ^ 63)) &&& d / 2 ^ 63)) := by
  simp only [← Nat.shiftRight_eq_div_pow, Nat.shiftRight_or_distrib, Nat.shiftRight_and_distrib, Nat.shiftRight_xor_distrib]

theorem borrow_nat (x y b d : Nat) (hx : x < 18446744073709551616) (hy : y < 18446744073709551616) (hb : b ≤ 1)
    (hd : (d : Int) = ((x : Int) - y - b) % 18446744073709551616) :
    (((18446744073709551615 ^^^ x) &&& y) ||| ((18446744073709551615 ^^^ (x ^^^ y)) &&& d)) / 2 ^ 63 = if x < y + b then 1 else 0 := by
  rw [top]
  have tM : 18446744073709551615 / 2 ^ 63 = 1 := by decide
  rw [tM]
  have tx : x / 2 ^ 63 = 0 ∨ x / 2 ^ 63 = 1 := by omega
  have ty : y / 2 ^ 63 = 0 ∨ y / 2 ^ 63 = 1 := by omega
  have td : d / 2 ^ 63 = 0 ∨ d / 2 ^ 63 = 1 := by omega
  rcases tx with tx | tx <;> rcases ty with ty | ty <;> rcases td with td | td
  all_goals
    rw [tx, ty, td]
    split
    all_goals first | rfl | omega

theorem borrow_bits (x y b : Int) (hx : 0 ≤ x ∧ x ≤ 18446744073709551615) (hy : 0 ≤ y ∧ y ≤ 18446744073709551615) (hb : 0 ≤ b ∧ b ≤ 1) :
    bits BinOp.or IntKind.u64 (bits BinOp.and IntKind.u64 (bits BinOp.xor IntKind.u64 IntKind.u64.max x) y)
        (bits BinOp.and IntKind.u64 (bits BinOp.xor IntKind.u64 IntKind.u64.max (bits BinOp.xor IntKind.u64 x y))
          (IntKind.u64.wrap (IntKind.u64.wrap (x - y) - b))) / 9223372036854775808 = bor x y b := by
  obtain ⟨x, rfl⟩ := Int.eq_ofNat_of_zero_le hx.1
  obtain ⟨y, rfl⟩ := Int.eq_ofNat_of_zero_le hy.1
  obtain ⟨b, rfl⟩ := Int.eq_ofNat_of_zero_le hb.1
  obtain ⟨d, hd⟩ := Int.eq_ofNat_of_zero_le (wrap_u64_nonneg (IntKind.u64.wrap ((x : Int) - y) - b))
  rw [hd]
  have hd' : (d : Int) = ((x : Int) - y - b) % 18446744073709551616 := by
    rw [← hd, IntKind.wrap_u64, IntKind.wrap_u64]
    omega
  have lM : 18446744073709551615 < 18446744073709551616 := by decide
  have lx : x < 18446744073709551616 := by omega
  have ly : y < 18446744073709551616 := by omega
  have ld : d < 18446744073709551616 := by omega
  have hM : IntKind.u64.max = ((18446744073709551615 : Nat) : Int) := rfl
  have l1 : 18446744073709551615 ^^^ x < 2 ^ 64 := Nat.xor_lt_two_pow lM lx
  have l2 : x ^^^ y < 2 ^ 64 := Nat.xor_lt_two_pow lx ly
  have l3 : 18446744073709551615 ^^^ (x ^^^ y) < 2 ^ 64 := Nat.xor_lt_two_pow lM l2
  have l4 : (18446744073709551615 ^^^ x) &&& y < 2 ^ 64 := Nat.and_lt_two_pow _ ly
  have l5 : (18446744073709551615 ^^^ (x ^^^ y)) &&& d < 2 ^ 64 := Nat.and_lt_two_pow _ ld
  rw [hM, u64_xor_nat _ _ lM lx, u64_and_nat _ _ l1 ly, u64_xor_nat _ _ lx ly, u64_xor_nat _ _ lM l2, u64_and_nat _ _ l3 ld, u64_or_nat _ _ l4 l5]
  have hn := borrow_nat x y b d lx ly (by omega) hd'
  generalize (((18446744073709551615 ^^^ x) &&& y) ||| ((18446744073709551615 ^^^ (x ^^^ y)) &&& d)) = m at hn ⊢
  unfold bor
  split at hn
  · rw [if_pos (by omega)]
    omega
  · rw [if_neg (by omega)]
    omega
end Go.Proofs.Qxb6603011a.borrow
