/-
  Shared by two claims of this seat: what 'digitsFrom' answers, and its contract.
-/
import Derived.Test.Qxb6603008aRows
import Derived.WalkKit
import Derived.ProofKit
namespace Go.Proofs.Qxb6603008a.digits
open Go.ChangeShapes Go.WideShapes Go.ChangeAt Go.RowKit

/-- Byte k of s is there and is an ASCII digit. -/
def dig (s : ByteArray) (k : Nat) : Prop := ∃ h : k < s.size, 48 ≤ (s[k].toNat : Int) ∧ (s[k].toNat : Int) ≤ 57

/-- r is the first place at or after n where s has no digit. -/
def Run (s : ByteArray) (n r : Nat) : Prop := n ≤ r ∧ (∀ k, n ≤ k → k < r → dig s k) ∧ ¬ dig s r

/-- The call answers such a place. -/
def Ends (s : ByteArray) (n : Nat) (e : Ending) : Prop := ∃ r : Nat, e = .returned (.int .i64 r) ∧ Run s n r

/-! ### The plain laws -/
theorem Run.out {s : ByteArray} {n r : Nat} (h : Run s n r) (hn : s.size ≤ n) : r = n := by
  obtain ⟨h1, h2, _⟩ := h
  by_cases hr : n < r
  · obtain ⟨hk, _⟩ := h2 n (Nat.le_refl _) hr
    omega
  · omega

theorem Run.inside {s : ByteArray} {n r : Nat} (h : Run s n r) (hn : n < s.size) : r ≤ s.size := by
  obtain ⟨h1, h2, _⟩ := h
  by_cases hr : n < r
  · obtain ⟨hk, _⟩ := h2 (r - 1) (by omega) (by omega)
    omega
  · omega

theorem Run.mono {s : ByteArray} {i j ri rj : Nat} (hi : Run s i ri) (hj : Run s j rj) (h : i ≤ j) : ri ≤ rj := by
  by_cases hr : rj < ri
  · exact absurd (hi.2.1 rj (Nat.le_trans h hj.1) hr) hj.2.2
  · omega

theorem Run.again {s : ByteArray} {i ri r : Nat} (hi : Run s i ri) (h : Run s ri r) : r = ri := by
  by_cases hr : ri < r
  · exact absurd (h.2.1 ri (Nat.le_refl _) hr) hi.2.2
  · have := h.1
    omega

theorem Run.same {s : ByteArray} {i j ri rj : Nat} (hi : Run s i ri) (hj : Run s j rj) (h : i ≤ j) (hl : j ≤ ri) : rj = ri := by
  have h1 := hi.mono hj h
  by_cases hr : ri < rj
  · exact absurd (hj.2.1 ri hl hr) hi.2.2
  · omega

/-! ### The contract -/
theorem digitsFrom (s : ByteArray) (n : Nat) (hs : s.size ≤ 1048576) (w : World) :
    Calls Try.prog 12 #[.string s, .int .i64 n] w fun e w' => Ends s n e ∧ w' = w := by
  go_enter Try.func12, Try.ntmps12
  go_wp2
  go_loop [1] (fun i => ∃ k : Nat, n ≤ k ∧ (∀ j, n ≤ j → j < k → dig s j) ∧ i = .int .i64 k) (fun i => s.size - (intOf i).toNat)
  case atStart => exact ⟨n, Nat.le_refl _, fun j h1 h2 => absurd h1 (by omega), rfl⟩
  case round =>
    obtain ⟨k, hk, hd, rfl⟩ := hrel
    have HD : Hid (∀ j, n ≤ j → j < k → dig s j) := hd
    clear hd
    go_wp2
    · have d1 : k < s.size := by assumption
      have d2 : 48 ≤ (s[k].toNat : Int) := by assumption
      have d3 : (s[k].toNat : Int) ≤ 57 := by assumption
      go_round
      case rel =>
        refine ⟨k + 1, by omega, fun j h1 h2 => ?_, by go_num⟩
        by_cases hj : j < k
        · exact HD.out j h1 hj
        · obtain rfl : j = k := by omega
          exact ⟨d1, d2, d3⟩
      case measure => simp [intOf]; omega
    · go_ret
      have d3 : 57 < (s[k].toNat : Int) := by assumption
      exact ⟨⟨k, rfl, hk, HD.out, fun ⟨_, _, h⟩ => by omega⟩, rfl⟩
    · go_ret
      have d3 : (s[k].toNat : Int) < 48 := by assumption
      exact ⟨⟨k, rfl, hk, HD.out, fun ⟨_, h, _⟩ => by omega⟩, rfl⟩
    · go_ret
      have d3 : ¬ k < s.size := by assumption
      exact ⟨⟨k, rfl, hk, HD.out, fun ⟨h, _⟩ => d3 h⟩, rfl⟩

theorem zzDigitsFrom (s : ByteArray) (n : Nat) (hs : s.size ≤ 1048576) (w : World) :
    Calls Try.prog 8 #[.string s, .int .i64 n] w fun e w' => Ends s n e ∧ w' = w := by
  go_enter Try.func8, Try.ntmps8
  go_wp2_with fail
  refine (digitsFrom s n hs _).mono ?_
  rintro e w' ⟨⟨r, rfl, hr⟩, rfl⟩
  go_wp2_with fail
  go_ret
  exact ⟨⟨r, rfl, hr⟩, rfl⟩
end Go.Proofs.Qxb6603008a.digits
