/-
  The plain law: the choice table over the or-ed kinds is the case table over which flags some kind has. No Go in sight.
-/
import Derived.Test.Qxb6604014aChoose
import Derived.Laws.BitsAllLaws
namespace Go.Proofs.Qxb6604014a.table
open Go.Proofs.Qxb6604014a.choose

/-- Does p hold of one of the first k numbers? -/
def anyTo (p : Int → Bool) (h : Nat → Int) : Nat → Bool
  | 0 => false
  | k + 1 => anyTo p h k || p (h k)

def both (q : Int) : Bool := q == 3
def hasR (q : Int) : Bool := bits BinOp.and IntKind.u8 q 1 != 0
def hasC (q : Int) : Bool := bits BinOp.and IntKind.u8 q 2 != 0
def other (q : Int) : Bool := bits BinOp.andNot IntKind.u8 q 3 != 0

/-- The case table of the law. -/
def model (b o r c : Bool) : Int := if b then 5 else if o then 7 else if r && c then 6 else if r then 4 else if c then 3 else 7

theorem anyTo_iff (p : Int → Bool) (h : Nat → Int) (n : Nat) : anyTo p h n = true ↔ ∃ j, j < n ∧ p (h j) = true := by
  induction n with
  | zero =>
    constructor
    · intro k
      cases k
    · rintro ⟨j, hj, _⟩
      exact absurd hj (Nat.not_lt_zero _)
  | succ n ih =>
    show (anyTo p h n || p (h n)) = true ↔ _
    rw [Bool.or_eq_true, ih]
    constructor
    · rintro (⟨j, hj, hp⟩ | hp)
      · exact ⟨j, by omega, hp⟩
      · exact ⟨n, by omega, hp⟩
    · rintro ⟨j, hj, hp⟩
      by_cases e : j = n
      · subst e
        exact Or.inr hp
      · exact Or.inl ⟨j, by omega, hp⟩

/-! ### One kind -/
theorem hasR_nat (q : Nat) (h : q < 256) : hasR q = decide (q % 2 = 1) := by
  unfold hasR
  have e : bits BinOp.and IntKind.u8 (q : Int) 1 = ((q % 2 : Nat) : Int) := by
    rw [← nat_mask1]
    exact u8_and_nat q 1 h (by omega)
  rw [e]
  by_cases k : q % 2 = 1
  · rw [k]
    rfl
  · have k0 : q % 2 = 0 := by omega
    rw [k0]
    rfl

theorem hasC_nat (q : Nat) (h : q < 256) : hasC q = decide (q / 2 % 2 = 1) := by
  unfold hasC
  have e : bits BinOp.and IntKind.u8 (q : Int) 2 = ((q / 2 % 2 * 2 : Nat) : Int) := by
    have := nat_bit 1 q
    rw [show (2 : Nat) ^ 1 = 2 from rfl] at this
    rw [← this]
    exact u8_and_nat q 2 h (by omega)
  rw [e]
  by_cases k : q / 2 % 2 = 1
  · rw [k]
    rfl
  · have k0 : q / 2 % 2 = 0 := by omega
    rw [k0]
    rfl

theorem high (q : Nat) (h : q < 256) : q &&& 252 = q / 4 * 4 := by
  have : ∀ q : Fin 256, q.val &&& 252 = q.val / 4 * 4 := by decide +kernel
  exact this ⟨q, h⟩

theorem other_nat (q : Nat) (h : q < 256) : other q = decide (q / 4 ≠ 0) := by
  unfold other
  have e : bits BinOp.andNot IntKind.u8 (q : Int) 3 = ((q / 4 * 4 : Nat) : Int) := by
    rw [← high q h]
    exact u8_andNot_nat q 3 h (by omega)
  rw [e]
  by_cases k : q / 4 = 0
  · rw [k]
    rfl
  · rw [decide_eq_true k]
    exact bne_iff_ne.2 (by omega)

/-! ### Or-ing -/
theorem or_low (x y : Nat) : (x ||| y) % 2 = 1 ↔ x % 2 = 1 ∨ y % 2 = 1 := by
  have e : (x ||| y) % 2 ^ 1 = x % 2 ^ 1 ||| y % 2 ^ 1 := Nat.or_mod_two_pow
  rw [show (2 : Nat) ^ 1 = 2 from rfl] at e
  rw [e]
  have tx : x % 2 = 0 ∨ x % 2 = 1 := by omega
  have ty : y % 2 = 0 ∨ y % 2 = 1 := by omega
  rcases tx with tx | tx <;> rcases ty with ty | ty <;> rw [tx, ty] <;> decide

theorem or_div (x y i : Nat) : (x ||| y) / 2 ^ i = x / 2 ^ i ||| y / 2 ^ i := by
  simp only [← Nat.shiftRight_eq_div_pow, Nat.shiftRight_or_distrib]

theorem or_zero (x y : Nat) : x ||| y ≠ 0 ↔ x ≠ 0 ∨ y ≠ 0 := by
  rw [Ne, Nat.or_eq_zero_iff]
  omega

/-- What is or-ed together, read bit by bit. -/
theorem orTo_bits (h : Nat → Int) (n : Nat) (hb : ∀ j, j < n → 0 ≤ h j ∧ h j ≤ 255) :
    ∃ S : Nat, orTo h n = S ∧ S < 256 ∧ (S % 2 = 1 ↔ anyTo hasR h n = true) ∧ (S / 2 % 2 = 1 ↔ anyTo hasC h n = true) ∧ (S / 4 ≠ 0 ↔ anyTo other h n = true) := by
  induction n with
  | zero => exact ⟨0, rfl, by omega, by simp [anyTo], by simp [anyTo], by simp [anyTo]⟩
  | succ n ih =>
    obtain ⟨S, e, hS, h1, h2, h3⟩ := ih (fun j hj => hb j (by omega))
    obtain ⟨b0, b1⟩ := hb n (by omega)
    obtain ⟨q, hq⟩ := Int.eq_ofNat_of_zero_le b0
    have lq : q < 256 := by omega
    have eO : orTo h (n + 1) = ((S ||| q : Nat) : Int) := by
      show bits BinOp.or IntKind.u8 (orTo h n) (h n) = _
      rw [e, hq]
      exact u8_or_nat S q hS lq
    refine ⟨S ||| q, eO, Nat.or_lt_two_pow (n := 8) hS lq, ?_, ?_, ?_⟩
    · show _ ↔ (anyTo hasR h n || hasR (h n)) = true
      rw [hq, hasR_nat q lq, or_low, h1, Bool.or_eq_true, decide_eq_true_iff]
    · show _ ↔ (anyTo hasC h n || hasC (h n)) = true
      have e2 := or_div S q 1
      rw [show (2 : Nat) ^ 1 = 2 from rfl] at e2
      rw [hq, hasC_nat q lq, e2, or_low, h2, Bool.or_eq_true, decide_eq_true_iff]
    · show _ ↔ (anyTo other h n || other (h n)) = true
      have e4 := or_div S q 2
      rw [show (2 : Nat) ^ 2 = 4 from rfl] at e4
      rw [hq, other_nat q lq, e4, or_zero, h3, Bool.or_eq_true, decide_eq_true_iff]

/-- THE LAW: what 'choose' answers is the model's value. -/
theorem law (h : Nat → Int) (n : Nat) (r : Int) (hb : ∀ j, j < n → 0 ≤ h j ∧ h j ≤ 255) (h5 : (∃ j, j < n ∧ h j = 3) → r = 5) (ht : (¬ ∃ j, j < n ∧ h j = 3) → r = choose.table (orTo h n)) :
    r = model (anyTo both h n) (anyTo other h n) (anyTo hasR h n) (anyTo hasC h n) := by
  have hboth : anyTo both h n = true ↔ ∃ j, j < n ∧ h j = 3 := by
    rw [anyTo_iff]
    constructor
    · rintro ⟨j, hj, hp⟩
      exact ⟨j, hj, beq_iff_eq.1 hp⟩
    · rintro ⟨j, hj, hp⟩
      exact ⟨j, hj, beq_iff_eq.2 hp⟩
  obtain ⟨S, e, hS, h1, h2, h3⟩ := orTo_bits h n hb
  rw [e] at ht
  generalize anyTo other h n = o at *
  generalize anyTo hasR h n = a at *
  generalize anyTo hasC h n = c at *
  by_cases hx : ∃ j, j < n ∧ h j = 3
  · rw [hboth.2 hx, h5 hx]
    rfl
  · have hb0 : anyTo both h n = false := by
      cases hh : anyTo both h n with
      | false => rfl
      | true => exact absurd (hboth.1 hh) hx
    rw [hb0, ht hx]
    unfold choose.table
    cases o with
    | true =>
      have := h3.2 rfl
      rw [if_neg (by omega), if_neg (by omega), if_neg (by omega)]
      rfl
    | false =>
      have n3 : ¬ S / 4 ≠ 0 := fun k => by cases h3.1 k
      cases a with
      | true =>
        have k1 := h1.2 rfl
        cases c with
        | true =>
          have k2 := h2.2 rfl
          rw [if_pos (by omega)]
          rfl
        | false =>
          have k2 : ¬ S / 2 % 2 = 1 := fun k => by cases h2.1 k
          rw [if_neg (by omega), if_pos (by omega)]
          rfl
      | false =>
        have k1 : ¬ S % 2 = 1 := fun k => by cases h1.1 k
        cases c with
        | true =>
          have k2 := h2.2 rfl
          rw [if_neg (by omega), if_neg (by omega), if_pos (by omega)]
          rfl
        | false =>
          have k2 : ¬ S / 2 % 2 = 1 := fun k => by cases h2.1 k
          rw [if_neg (by omega), if_neg (by omega), if_neg (by omega)]
          rfl
end Go.Proofs.Qxb6604014a.table
