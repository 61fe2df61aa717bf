/-
  The three copying callees: 'b1CloneInts', 'b1CloneBytes', 'b1ToFlags'.
-/
import Derived.Test.Qxb6604014aArr
import Derived.Lib.SliceRun
namespace Go.Proofs.Qxb6604014a.clone
open Go.ChangeShapes Go.WideShapes Go.ChangeAt Go.RowKit arr

theorem info3 : (Try.prog.info? 3).map (fun i => (i.zero, i.size, i.bytes)) = some (some (.int .i64 0), 1, 8) := by kernel_rfl
theorem info5 : (Try.prog.info? 5).map (fun i => (i.zero, i.size, i.bytes)) = some (some (.int .u8 0), 1, 1) := by kernel_rfl
theorem info50 : (Try.prog.info? 50).map (fun i => (i.zero, i.size, i.bytes)) = some (some (.int .u8 0), 1, 1) := by kernel_rfl

theorem ints_nil (c : Nat) (f : Nat → Int) (w : World) :
    Calls Try.prog 19 #[.slice none 0 c] w fun e w' => Made .i64 w 0 f e w' := by
  have q35 : ∀ (w : World) (a : Option Addr) (n c n' c' : Nat), (binOp .eql 35 (.slice a n c) (.slice none n' c')).run Try.prog w = .ok (.bool a.isNone) w := fun w a n c n' c' => Lib.run_eql_slice_nil w _ _ a n c n' c' Try.underlying35
  go_enter Try.func19, Try.ntmps19
  go_wp2
  go_ret
  exact ⟨none, 0, 0, 0, rfl, Arr.none, Below.refl _ _⟩

theorem ints_some (x : Addr) (n c : Nat) (f : Nat → Int) (b off : Nat) (w : World) (hA : Arr .i64 w (some x) n f b off) (hn : n ≤ 65536) :
    Calls Try.prog 19 #[.slice (some x) n c] w fun e w' => Made .i64 w n f e w' := by
  have q35 : ∀ (w : World) (a : Option Addr) (n c n' c' : Nat), (binOp .eql 35 (.slice a n c) (.slice none n' c')).run Try.prog w = .ok (.bool a.isNone) w := fun w a n c n' c' => Lib.run_eql_slice_nil w _ _ a n c n' c' Try.underlying35
  have hmk := run_make_row' (P := Try.prog) 35 3 (.int .i64 0) 8 Try.underlying35 info3 rfl .i64 .i64 n (by omega) (by omega)
  have HA : Hid (Arr .i64 w (some x) n f b off) := hA
  clear hA
  go_enter Try.func19, Try.ntmps19
  go_wp2
  clear hmk q35
  go_loopw [4] (fun i wr => ∃ k : Nat, k ≤ n ∧ i = .int .i64 k ∧ Copying .i64 3 w wr n f k) (fun i _ => n - (intOf i).toNat)
  case atStart => exact ⟨0, Nat.zero_le _, rfl, Copying.start _ _ _ _ _⟩
  case round =>
    obtain ⟨k, hk, rfl, hC⟩ := hrel
    by_cases hlt : k < n
    · obtain rfl : x = ⟨b, off, none⟩ := by simpa using HA.out.head (by omega)
      have hz : (k : Int) < (n : Int) := by omega
      have g0 : wr.cell? ⟨b, off + k, none⟩ = some (.int .i64 (f k)) := (HA.out.later hC.below (Nat.le_refl _)).cell k hlt
      have g1 := hC.row.cell hlt
      have g2 := hC.row.frozen k
      have HC : Hid (Copying .i64 3 w wr n f k) := hC
      clear hC
      go_wp2
      go_roundw
      case rel => exact ⟨k + 1, by omega, by go_num, HC.out.step⟩
      case measure => simp [intOf]; omega
    · obtain rfl : k = n := by omega
      have HC : Hid (Copying .i64 3 w wr k f k) := hC
      clear hC
      go_wp2
      go_ret
      exact HC.out.done

theorem bytes_nil (c : Nat) (f : Nat → Int) (w : World) :
    Calls Try.prog 20 #[.slice none 0 c] w fun e w' => Made .u8 w 0 f e w' := by
  have q36 : ∀ (w : World) (a : Option Addr) (n c n' c' : Nat), (binOp .eql 36 (.slice a n c) (.slice none n' c')).run Try.prog w = .ok (.bool a.isNone) w := fun w a n c n' c' => Lib.run_eql_slice_nil w _ _ a n c n' c' Try.underlying36
  go_enter Try.func20, Try.ntmps20
  go_wp2
  go_ret
  exact ⟨none, 0, 0, 0, rfl, Arr.none, Below.refl _ _⟩

theorem bytes_some (x : Addr) (n c : Nat) (f : Nat → Int) (b off : Nat) (w : World) (hA : Arr .u8 w (some x) n f b off) (hn : n ≤ 65536) :
    Calls Try.prog 20 #[.slice (some x) n c] w fun e w' => Made .u8 w n f e w' := by
  have q36 : ∀ (w : World) (a : Option Addr) (n c n' c' : Nat), (binOp .eql 36 (.slice a n c) (.slice none n' c')).run Try.prog w = .ok (.bool a.isNone) w := fun w a n c n' c' => Lib.run_eql_slice_nil w _ _ a n c n' c' Try.underlying36
  have hmk := run_make_row' (P := Try.prog) 36 5 (.int .u8 0) 1 Try.underlying36 info5 rfl .i64 .i64 n (by omega) (by omega)
  have HA : Hid (Arr .u8 w (some x) n f b off) := hA
  clear hA
  go_enter Try.func20, Try.ntmps20
  go_wp2
  clear hmk q36
  go_loopw [4] (fun i wr => ∃ k : Nat, k ≤ n ∧ i = .int .i64 k ∧ Copying .u8 5 w wr n f k) (fun i _ => n - (intOf i).toNat)
  case atStart => exact ⟨0, Nat.zero_le _, rfl, Copying.start _ _ _ _ _⟩
  case round =>
    obtain ⟨k, hk, rfl, hC⟩ := hrel
    by_cases hlt : k < n
    · obtain rfl : x = ⟨b, off, none⟩ := by simpa using HA.out.head (by omega)
      have hz : (k : Int) < (n : Int) := by omega
      have g0 : wr.cell? ⟨b, off + k, none⟩ = some (.int .u8 (f k)) := (HA.out.later hC.below (Nat.le_refl _)).cell k hlt
      have g1 := hC.row.cell hlt
      have g2 := hC.row.frozen k
      have HC : Hid (Copying .u8 5 w wr n f k) := hC
      clear hC
      go_wp2
      go_roundw
      case rel => exact ⟨k + 1, by omega, by go_num, HC.out.step⟩
      case measure => simp [intOf]; omega
    · obtain rfl : k = n := by omega
      have HC : Hid (Copying .u8 5 w wr k f k) := hC
      clear hC
      go_wp2
      go_ret
      exact HC.out.done

theorem flags (a : Option Addr) (n c : Nat) (f : Nat → Int) (b off : Nat) (w : World) (hA : Arr .u8 w a n f b off) (hn : n ≤ 65536) :
    Calls Try.prog 22 #[.slice a n c] w fun e w' => Made .u8 w n f e w' := by
  have hmk := run_make_row' (P := Try.prog) 43 50 (.int .u8 0) 1 Try.underlying43 info50 rfl .i64 .i64 n (by omega) (by omega)
  have HA : Hid (Arr .u8 w a n f b off) := hA
  clear hA
  go_enter Try.func22, Try.ntmps22
  go_wp2
  clear hmk
  go_loopw [4] (fun i wr => ∃ k : Nat, k ≤ n ∧ i = .int .i64 k ∧ Copying .u8 50 w wr n f k) (fun i _ => n - (intOf i).toNat)
  case atStart => exact ⟨0, Nat.zero_le _, rfl, Copying.start _ _ _ _ _⟩
  case round =>
    obtain ⟨k, hk, rfl, hC⟩ := hrel
    by_cases hlt : k < n
    · obtain rfl := HA.out.head (by omega)
      have hz : (k : Int) < (n : Int) := by omega
      have g0 : wr.cell? ⟨b, off + k, none⟩ = some (.int .u8 (f k)) := (HA.out.later hC.below (Nat.le_refl _)).cell k hlt
      have g1 := hC.row.cell hlt
      have g2 := hC.row.frozen k
      have HC : Hid (Copying .u8 50 w wr n f k) := hC
      clear hC
      go_wp2
      go_roundw
      case rel => exact ⟨k + 1, by omega, by go_num, HC.out.step⟩
      case measure => simp [intOf]; omega
    · obtain rfl : k = n := by omega
      have HC : Hid (Copying .u8 50 w wr k f k) := hC
      clear hC
      go_wp2
      go_ret
      exact HC.out.done

/-- 'b1CloneInts' at every slice. -/
theorem ints (a : Option Addr) (n c : Nat) (f : Nat → Int) (b off : Nat) (w : World) (hA : Arr .i64 w a n f b off) (hnil : a = none → n = 0) (hn : n ≤ 65536) :
    Calls Try.prog 19 #[.slice a n c] w fun e w' => Made .i64 w n f e w' := by
  cases a with
  | none =>
    obtain rfl := hnil rfl
    exact ints_nil c f w
  | some x => exact ints_some x n c f b off w hA hn

/-- 'b1CloneBytes' at every slice. -/
theorem bytes (a : Option Addr) (n c : Nat) (f : Nat → Int) (b off : Nat) (w : World) (hA : Arr .u8 w a n f b off) (hnil : a = none → n = 0) (hn : n ≤ 65536) :
    Calls Try.prog 20 #[.slice a n c] w fun e w' => Made .u8 w n f e w' := by
  cases a with
  | none =>
    obtain rfl := hnil rfl
    exact bytes_nil c f w
  | some x => exact bytes_some x n c f b off w hA hn
end Go.Proofs.Qxb6604014a.clone
