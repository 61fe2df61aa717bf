/-
  The three tests ahead of the law: 'zzBytes_FnChooseMatchesFlagModel', 'b1ChooseTooBig', 'b1TasksInRange'.
-/
import Derived.Test.Qxb6604014aArr
namespace Go.Proofs.Qxb6604014a.guards
open Go.ChangeShapes Go.WideShapes Go.ChangeAt Go.RowKit arr

theorem bytes_yes (a0 a1 : Option Addr) (n0 c0 n1 c1 : Nat) (h : n0 + n1 ≤ 1048576) (w : World) :
    Calls Try.prog 16 #[.slice a0 n0 c0, .slice a1 n1 c1] w fun e w' => e = .returned (.bool true) ∧ w' = w := by
  go_enter Try.func16, Try.ntmps16
  go_wp2
  go_ret
  exact ⟨rfl, rfl⟩

theorem bytes_no (a0 a1 : Option Addr) (n0 c0 n1 c1 : Nat) (h : 1048576 < n0 + n1) (h0 : n0 ≤ maxLen) (h1 : n1 ≤ maxLen) (w : World) :
    Calls Try.prog 16 #[.slice a0 n0 c0, .slice a1 n1 c1] w fun e w' => e = .returned (.bool false) ∧ w' = w := by
  unfold maxLen at h0 h1
  by_cases k0 : 1048576 < n0
  · go_enter Try.func16, Try.ntmps16
    go_wp2
    go_ret
    exact ⟨rfl, rfl⟩
  · by_cases k1 : 1048576 < n1
    · go_enter Try.func16, Try.ntmps16
      go_wp2
      go_ret
      exact ⟨rfl, rfl⟩
    · go_enter Try.func16, Try.ntmps16
      go_wp2
      go_ret
      exact ⟨rfl, rfl⟩

theorem big_no (a0 a1 : Option Addr) (n0 c0 n1 c1 : Nat) (h0 : n0 ≤ 65536) (h1 : n1 ≤ 65536) (w : World) :
    Calls Try.prog 17 #[.slice a0 n0 c0, .slice a1 n1 c1] w fun e w' => e = .returned (.bool false) ∧ w' = w := by
  have d : decide ((1048576 : Int) < 8 * (n0 : Int) + (n1 : Int)) = false := decide_eq_false (by omega)
  go_enter Try.func17, Try.ntmps17
  go_wp2
  go_ret
  exact ⟨rfl, rfl⟩

theorem big_yes (a0 a1 : Option Addr) (n0 c0 n1 c1 : Nat) (h : ¬ (n0 ≤ 65536 ∧ n1 ≤ 65536)) (w : World) :
    Calls Try.prog 17 #[.slice a0 n0 c0, .slice a1 n1 c1] w fun e w' => e = .returned (.bool true) ∧ w' = w := by
  by_cases k0 : 65536 < n0
  · clear h
    go_enter Try.func17, Try.ntmps17
    go_wp2
    go_ret
    exact ⟨rfl, rfl⟩
  · have k1 : 65536 < n1 := by omega
    clear h
    go_enter Try.func17, Try.ntmps17
    go_wp2
    go_ret
    exact ⟨rfl, rfl⟩

/-- The answer is a bool; where it is true, all numbers lie in [0, m). -/
def Judged (n m : Nat) (f : Nat → Int) (e : Ending) : Prop :=
  ∃ r : Bool, e = .returned (.bool r) ∧ (r = true → ∀ j, j < n → 0 ≤ f j ∧ f j < m)

theorem inRange (a : Option Addr) (n c m : Nat) (f : Nat → Int) (b off : Nat) (w : World) (hA : Arr .i64 w a n f b off) (hn : n ≤ 65536) :
    Calls Try.prog 18 #[.slice a n c, .int .i64 m] w fun e w' => Judged n m f e ∧ w' = w := by
  have HA : Hid (Arr .i64 w a n f b off) := hA
  clear hA
  go_enter Try.func18, Try.ntmps18
  go_wp2
  go_loop [5] (fun i => ∃ k : Nat, k ≤ n ∧ i = .int .i64 k ∧ Hid (∀ j, j < k → 0 ≤ f j ∧ f j < m)) (fun i => n - (intOf i).toNat)
  case atStart => exact ⟨0, Nat.zero_le _, rfl, fun j hj => absurd hj (Nat.not_lt_zero _)⟩
  case round =>
    obtain ⟨k, hk, rfl, hC⟩ := hrel
    by_cases hlt : k < n
    · obtain rfl := HA.out.head (by omega)
      have hz : (k : Int) < (n : Int) := by omega
      have g0 := HA.out.cell k hlt
      by_cases t0 : f k < 0
      · go_wp2
        go_ret
        exact ⟨⟨false, rfl, fun h => by cases h⟩, rfl⟩
      · by_cases t1 : (m : Int) ≤ f k
        · go_wp2
          go_ret
          exact ⟨⟨false, rfl, fun h => by cases h⟩, rfl⟩
        · go_wp2
          go_round
          case rel =>
            refine ⟨k + 1, by omega, by go_num, fun j hj => ?_⟩
            by_cases hj' : j < k
            · exact hC j hj'
            · obtain rfl : j = k := by omega
              exact ⟨by omega, by omega⟩
          case measure => simp [intOf]; omega
    · obtain rfl : k = n := by omega
      go_wp2
      go_ret
      exact ⟨⟨true, rfl, fun _ => hC⟩, rfl⟩
end Go.Proofs.Qxb6604014a.guards
