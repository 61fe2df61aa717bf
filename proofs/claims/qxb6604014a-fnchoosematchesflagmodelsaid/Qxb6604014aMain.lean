/-
  The walk of 'FnChooseMatchesFlagModel' over slices told by 'Arr'.
-/
import Derived.Test.Qxb6604014aClone
import Derived.Test.Qxb6604014aGuards
import Derived.Test.Qxb6604014aTable
namespace Go.Proofs.Qxb6604014a.main
open Go.ChangeShapes Go.WideShapes Go.ChangeAt Go.RowKit arr

set_option maxHeartbeats 1000000 in
theorem tail (a0 : Option Addr) (n c0 : Nat) (f : Nat → Int) (b0 off0 : Nat) (a1 : Option Addr) (m c1 : Nat) (g : Nat → Int) (b1 off1 : Nat) (w : World)
    (hA : Arr .i64 w a0 n f b0 off0) (hB : Arr .u8 w a1 m g b1 off1) (nil0 : a0 = none → n = 0) (nil1 : a1 = none → m = 0) (hn : n ≤ 65536) (hm : m ≤ 65536) (hk : ∀ j, j < m → 0 ≤ g j ∧ g j ≤ 255) :
    Calls Try.prog 4 #[.slice a0 n c0, .slice a1 m c1] w fun e w' => e = .returned (.bool true) ∧ Below w.heap.size w w' := by
  have HA := veil hA
  have HB := veil hB
  have HK := veil hk
  have N0 := veil nil0
  have N1 := veil nil1
  clear hA hB hk nil0 nil1
  go_enter Try.func4, Try.ntmps4
  go_wp2_with fail
  refine (guards.bytes_yes a0 a1 n c0 m c1 (by omega) _).mono ?_
  rintro e x ⟨rfl, hw⟩
  subst hw
  go_wp2_with fail
  refine (guards.big_no a0 a1 n c0 m c1 hn hm _).mono ?_
  rintro e x ⟨rfl, hw⟩
  subst hw
  go_wp2_with fail
  refine (guards.inRange a0 n c0 m f b0 off0 _ HA.out hn).mono ?_
  rintro e y ⟨⟨r, rfl, hr⟩, hw⟩
  subst hw
  cases r with
  | false =>
    clear hr
    go_wp2_with fail
    go_ret
    exact ⟨rfl, Below.refl _ _⟩
  | true =>
    have HR := veil (hr rfl)
    clear hr
    go_wp2_with fail
    refine (clone.ints a0 n c0 f b0 off0 _ HA.out N0.out hn).mono ?_
    rintro e w1 ⟨a2, c2, b2, off2, rfl, hA2, L1⟩
    have HB1 := veil (HB.out.later L1 (Nat.le_refl _))
    have HA1 := veil hA2
    have HL1 := veil L1
    clear hA2 L1 HA HB N0
    go_wp2_with fail
    refine (clone.bytes a1 m c1 g b1 off1 _ HB1.out N1.out hm).mono ?_
    rintro e w2 ⟨a3, c3, b3, off3, rfl, hB2, L2⟩
    have HA2 := veil (HA1.out.later L2 (Nat.le_refl _))
    have HB2 := veil hB2
    have HL2 := veil (HL1.out.trans (L2.mono HL1.out.size))
    clear hB2 L2 HA1 HB1 HL1 N1
    go_wp2_with fail
    refine (clone.flags a3 m c3 g b3 off3 _ HB2.out hm).mono ?_
    rintro e w3 ⟨a4, c4, b4, off4, rfl, hF, L3⟩
    have HA3 := veil (HA2.out.later L3 (Nat.le_refl _))
    have HB3 := veil (HB2.out.later L3 (Nat.le_refl _))
    have HF3 := veil hF
    have HL3 := veil (HL2.out.trans (L3.mono HL2.out.size))
    clear hF L3 HA2 HB2 HL2
    go_wp2_with fail
    refine (choose.zzChoose a2 n c2 f b2 off2 a4 m c4 g b4 off4 _ HA3.out HF3.out hn hm HR.out).mono ?_
    rintro e w4 ⟨r, rfl, h5, ht, L4⟩
    have HA4 := veil (HA3.out.later L4 (Nat.le_refl _))
    have HB4 := veil (HB3.out.later L4 (Nat.le_refl _))
    have HL4 := veil (HL3.out.trans (L4.mono HL3.out.size))
    have law := table.law (choose.kind f g) n r (fun j hj => HK.out _ (by have := HR.out j hj; omega)) h5 ht
    have HW := veil law
    clear law h5 ht L4 HA3 HB3 HF3 HL3 HK
    go_wp2_with fail
    go_loop [6, 7, 8, 9, 10] (fun s3 s1 s2 so i => ∃ k : Nat, k ≤ n ∧ i = .int .i64 k ∧ s3 = .bool (table.anyTo table.both (choose.kind f g) k) ∧ s1 = .bool (table.anyTo table.hasR (choose.kind f g) k) ∧
        s2 = .bool (table.anyTo table.hasC (choose.kind f g) k) ∧ so = .bool (table.anyTo table.other (choose.kind f g) k)) (fun _ _ _ _ i => n - (intOf i).toNat)
    case atStart => exact ⟨0, Nat.zero_le _, rfl, rfl, rfl, rfl, rfl⟩
    case round =>
      obtain ⟨k, hk, rfl, rfl, rfl, rfl, rfl⟩ := hrel
      by_cases hlt : k < n
      · obtain rfl := HA4.out.head (by omega)
        obtain ⟨r0, r1⟩ := HR.out k hlt
        obtain rfl := HB4.out.head (by omega)
        have hz : (k : Int) < (n : Int) := by omega
        have g0 := HA4.out.cell k hlt
        have g1 := HB4.out.cell (f k).toNat (by omega)
        have eK : choose.kind f g k = g (f k).toNat := rfl
        rw [← eK] at g1
        clear eK
        have E3 := veil (show table.anyTo table.both (choose.kind f g) (k + 1) = (table.anyTo table.both (choose.kind f g) k || choose.kind f g k == 3) from rfl)
        have E1 := veil (show table.anyTo table.hasR (choose.kind f g) (k + 1) = (table.anyTo table.hasR (choose.kind f g) k || bits BinOp.and IntKind.u8 (choose.kind f g k) 1 != 0) from rfl)
        have E2 := veil (show table.anyTo table.hasC (choose.kind f g) (k + 1) = (table.anyTo table.hasC (choose.kind f g) k || bits BinOp.and IntKind.u8 (choose.kind f g k) 2 != 0) from rfl)
        have Eo := veil (show table.anyTo table.other (choose.kind f g) (k + 1) = (table.anyTo table.other (choose.kind f g) k || bits BinOp.andNot IntKind.u8 (choose.kind f g k) 3 != 0) from rfl)
        generalize choose.kind f g k = q at g1 E3 E1 E2 Eo
        generalize table.anyTo table.both (choose.kind f g) k = s3 at E3 ⊢
        generalize table.anyTo table.hasR (choose.kind f g) k = s1 at E1 ⊢
        generalize table.anyTo table.hasC (choose.kind f g) k = s2 at E2 ⊢
        generalize table.anyTo table.other (choose.kind f g) k = so at Eo ⊢
        obtain ⟨t3, e3⟩ : ∃ t, (q == 3) = t := ⟨_, rfl⟩
        obtain ⟨t1, e1⟩ : ∃ t, (bits BinOp.and IntKind.u8 q 1 != 0) = t := ⟨_, rfl⟩
        obtain ⟨t2, e2⟩ : ∃ t, (bits BinOp.and IntKind.u8 q 2 != 0) = t := ⟨_, rfl⟩
        obtain ⟨to, eo⟩ : ∃ t, (bits BinOp.andNot IntKind.u8 q 3 != 0) = t := ⟨_, rfl⟩
        rw [e3] at E3
        rw [e1] at E1
        rw [e2] at E2
        rw [eo] at Eo
        clear HW HR HA4 HB4 HL4
        go_wp2_with fail
        all_goals
          go_round
          case rel => exact ⟨k + 1, by omega, by go_num, by rw [E3.out]; simp [*], by rw [E1.out]; simp [*], by rw [E2.out]; simp [*], by rw [Eo.out]; simp [*]⟩
          case measure => simp [intOf]; omega
      · obtain rfl : k = n := by omega
        clear HR HA4 HB4
        generalize table.anyTo table.both (choose.kind f g) k = s3 at HW ⊢
        generalize table.anyTo table.hasR (choose.kind f g) k = s1 at HW ⊢
        generalize table.anyTo table.hasC (choose.kind f g) k = s2 at HW ⊢
        generalize table.anyTo table.other (choose.kind f g) k = so at HW ⊢
        cases s3 <;> cases so <;> cases s1 <;> cases s2
        all_goals
          have hr := HW.out
          simp [table.model] at hr
          subst hr
          clear HW
          go_wp2_with fail
          go_ret
          exact ⟨rfl, HL4.out⟩
end Go.Proofs.Qxb6604014a.main
