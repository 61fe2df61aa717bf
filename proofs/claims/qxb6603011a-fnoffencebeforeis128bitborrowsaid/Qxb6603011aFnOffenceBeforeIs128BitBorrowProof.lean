/-
  The proof of 'Rows.FnOffenceBeforeIs128BitBorrowSaid'. The frame is the shell that the kit's tool wrote for this function; the contracts and the walk are typed by hand.
-/
import Derived.Test.Qxb6603011aRows
import Derived.Test.Qxb6603011aBefore
import Derived.Test.Qxb6603011aBorrow
import Derived.WalkKit
import Derived.ProofKit
import Derived.OpenShut
import Derived.ShutString
namespace Go.Proofs.Qxb6603011a.fnOffenceBeforeIs128BitBorrow
open Go.ChangeShapes Go.WideShapes Go.ChangeAt Go.RowKit
open Go.ChangeMaps (open_string shut_string)
set_option linter.unusedVariables false      -- a walk need not use every 'w<i>' (that an integer argument fits its kind)

theorem own : ownKnob Try.prog.godebug = none := by kernel_rfl

/-! ### THE PLAIN LAW: no Go in sight -/
theorem law (v r v' r' : Int) : (order.before v r v' r' == (borrow.bor r r' (borrow.bor (borrow.key v) (borrow.key v') 0) == 1)) = true := by
  unfold order.before borrow.bor borrow.key
  by_cases h1 : v + 9223372036854775808 < v' + 9223372036854775808 + 0
  · rw [if_pos h1]
    by_cases h2 : r < r' + 1
    · rw [if_pos h2, decide_eq_true (by omega)]
      rfl
    · rw [if_neg h2, decide_eq_false (by omega)]
      rfl
  · rw [if_neg h1]
    by_cases h2 : r < r' + 0
    · rw [if_pos h2, decide_eq_true (by omega)]
      rfl
    · rw [if_neg h2, decide_eq_false (by omega)]
      rfl

/-! ### 'zzb1Key', 'zzb1Sub' -/
theorem zzKey (v r : Int) (h : -9223372036854775808 ≤ v ∧ v ≤ 9223372036854775807) (w : World) :
    Calls Try.prog 6 #[.int .i64 v, .int .u64 r] w fun e w' => e = .returned (.tuple #[.int .u64 r, .int .u64 (borrow.key v)]) ∧ w' = w := by
  rw [← borrow.key_bits v h]
  go_enter Try.func6, Try.ntmps6
  go_wp2
  go_ret2
  exact ⟨rfl, rfl⟩

theorem zzSub (x y b : Int) (hx : 0 ≤ x ∧ x ≤ 18446744073709551615) (hy : 0 ≤ y ∧ y ≤ 18446744073709551615) (hb : 0 ≤ b ∧ b ≤ 1) (w : World) :
    Calls Try.prog 7 #[.int .u64 x, .int .u64 y, .int .u64 b] w fun e w' => e = .returned (.tuple #[.int .u64 (IntKind.u64.wrap (IntKind.u64.wrap (x - y) - b)), .int .u64 (borrow.bor x y b)]) ∧ w' = w := by
  rw [← borrow.borrow_bits x y b hx hy hb]
  go_enter Try.func7, Try.ntmps7
  go_wp2
  go_ret2
  exact ⟨rfl, rfl⟩


/-! ### STEP 1: THE WALK: the Go text returns true. 'Grown w w'': the world has at most new blocks (Derived/RowKit3.lean). Part the cases AHEAD of 'go_enter' where a test parts the walk; take each callee by a contract of your own. -/
theorem walk (a0 : Int) (a1 : Int) (a2 : Int) (a3 : Int) (w0 : (Lit.int .i64 a0).wf = true) (w1 : (Lit.int .u64 a1).wf = true) (w2 : (Lit.int .i64 a2).wf = true) (w3 : (Lit.int .u64 a3).wf = true) (w : World) :
    Calls Try.prog 3 #[.int .i64 a0, .int .u64 a1, .int .i64 a2, .int .u64 a3] w fun e w' => e = .returned (.bool true) ∧ Grown w w' := by
  have b0 := bounds_i64 w0
  have b1 := bounds_u64 w1
  have b2 := bounds_i64 w2
  have b3 := bounds_u64 w3
  have k0 : 0 ≤ borrow.key a0 ∧ borrow.key a0 ≤ 18446744073709551615 := ⟨borrow.key_lo b0.1, borrow.key_hi b0.2⟩
  have k2 : 0 ≤ borrow.key a2 ∧ borrow.key a2 ≤ 18446744073709551615 := ⟨borrow.key_lo b2.1, borrow.key_hi b2.2⟩
  have kb : 0 ≤ borrow.bor (borrow.key a0) (borrow.key a2) 0 ∧ borrow.bor (borrow.key a0) (borrow.key a2) 0 ≤ 1 := ⟨borrow.bor_lo _ _ _, borrow.bor_hi _ _ _⟩
  have c0 := zzKey a0 a1 b0
  have c1 := zzKey a2 a3 b2
  have c2 := zzSub (borrow.key a0) (borrow.key a2) 0 k0 k2 ⟨by omega, by omega⟩
  have c3 := zzSub a1 a3 (borrow.bor (borrow.key a0) (borrow.key a2) 0) b1 b3 kb
  have c4 := order.zzBefore a0 a1 a2 a3
  have hl := law a0 a1 a2 a3
  generalize borrow.bor a1 a3 (borrow.bor (borrow.key a0) (borrow.key a2) 0) = B1 at c3 hl
  generalize borrow.bor (borrow.key a0) (borrow.key a2) 0 = B0 at c2 c3
  generalize IntKind.u64.wrap (IntKind.u64.wrap (borrow.key a0 - borrow.key a2) - 0) = D0 at c2
  generalize IntKind.u64.wrap (IntKind.u64.wrap (a1 - a3) - B0) = D1 at c3
  generalize borrow.key a0 = K0 at c0 c2
  generalize borrow.key a2 = K2 at c1 c2
  generalize order.before a0 a1 a2 a3 = T at c4 hl
  have t : (B1 == 1) = T := (beq_iff_eq.1 hl).symm
  have C0 : Hid _ := c0
  have C1 : Hid _ := c1
  have C2 : Hid _ := c2
  have C3 : Hid _ := c3
  have C4 : Hid _ := c4
  clear c0 c1 c2 c3 c4 hl k0 k2 kb b0 b1 b2 b3 w0 w1 w2 w3
  cases T
  all_goals
    go_enter Try.func3, Try.ntmps3
    go_wp2_with fail
    refine (C0.out _).mono ?_
    rintro e x ⟨rfl, rfl⟩
    go_wp2_with fail
    refine (C1.out _).mono ?_
    rintro e x ⟨rfl, rfl⟩
    go_wp2_with fail
    refine (C2.out _).mono ?_
    rintro e x ⟨rfl, rfl⟩
    go_wp2_with fail
    refine (C3.out _).mono ?_
    rintro e x ⟨rfl, rfl⟩
    go_wp2_with fail
    refine (C4.out _).mono ?_
    rintro e x1 ⟨rfl, g⟩
    have G : Hid (Grown x x1) := g
    clear g
    go_wp2_with fail
    go_ret
    exact ⟨rfl, G.out⟩

/-! ### THE ROW's STEP: WRITTEN OUT: LEAVE IT -/
set_option maxRecDepth 100000 in
theorem lifted (os : Os) (started : os.Started) (H : Type) (enc : TypeId × Value → H) :
    ReturnsInHanded {} Try.checked os 3 .any (Rows.fnOffenceBeforeIs128BitBorrowSpec.pre6 enc Try.prog Try.f3 Rows.fnOffenceBeforeIs128BitBorrowRow.domain false) (Rows.fnOffenceBeforeIs128BitBorrowSpec.post enc Try.prog Try.f3 false true false false) := by
  refine returnsInHanded_of_change (C := Try.checked) own started (by kernel_rfl) Try.func3
    (ChangeSpec.witness6 (enc := enc) (C := Try.checked) false ⟨#[], #[.int .i64 0, .int .u64 0, .int .i64 0, .int .u64 0], []⟩ 8 (by kernel_rfl) (by kernel_rfl) (by kernel_rfl) (by kernel_rfl)) ?_
  intro W base args ds gs before hval0 hW hcnd _
  have hval : ∀ (j : Nat) t v, Try.f3.params[j]? = some t → args[j]? = some v → Value.okWide Try.prog W .any base t v := hval0
  have hW' := hW
  obtain ⟨p, q, hA0, hV, rfl, hfz, hnd⟩ := hW
  have hA : DataW.TrodAll enc Try.prog W 0 (fun _ => true) true Try.f3.params.toList args.toList ds p := hA0
  rw [Try.params3] at hA hval
  obtain ⟨v0, vs0, d0, ds0, p0, q0, hargs, rfl, rfl, h0, r0⟩ := trodAll_cons hA
  obtain ⟨v1, vs1, d1, ds1, p1, q1, rfl, rfl, rfl, h1, r1⟩ := trodAll_cons r0
  obtain ⟨v2, vs2, d2, ds2, p2, q2, rfl, rfl, rfl, h2, r2⟩ := trodAll_cons r1
  obtain ⟨v3, vs3, d3, ds3, p3, q3, rfl, rfl, rfl, h3, r3⟩ := trodAll_cons r2
  obtain ⟨rfl, rfl, rfl⟩ := trodAll_nil r3
  obtain rfl : args = #[v0, v1, v2, v3] := by cases args; simp_all
  obtain ⟨rfl, rfl⟩ := trodVars_none hV
  obtain ⟨a0, rfl, rfl, rfl, w0⟩ := open_int Try.underlying3 (hval 0 3 v0 rfl rfl) h0
  obtain ⟨a1, rfl, rfl, rfl, w1⟩ := open_int Try.underlying22 (hval 1 22 v1 rfl rfl) h1
  obtain ⟨a2, rfl, rfl, rfl, w2⟩ := open_int Try.underlying3 (hval 2 3 v2 rfl rfl) h2
  obtain ⟨a3, rfl, rfl, rfl, w3⟩ := open_int Try.underlying22 (hval 3 22 v3 rfl rfl) h3
  clear hA0 hval0
  simp only [List.append_nil] at hW'
  refine (walk a0 a1 a2 a3 w0 w1 w2 w3 W).mono fun e W' ⟨he, hg⟩ => ?_
  subst he
  exact ⟨_, rfl, post_of_same (pa := []) (pv := []) hW' (fun _ _ _ => (trodAll_cons_mk (shut_bool Try.underlying4 _) trodAll_mk0)) (fun sp _ => (trodAll_cons_mk (shut_int Try.underlying3 w0) (trodAll_cons_mk (shut_int Try.underlying22 w1) (trodAll_cons_mk (shut_int Try.underlying3 w2) (trodAll_cons_mk (shut_int Try.underlying22 w3) trodAll_mk0))))) (fun _ _ => rfl) rfl
    (hg.frame _) hg.2.1 (ok_one (by kernel_rfl) rfl (okWide_bool_mk Try.underlying4 _))⟩

theorem over : Rows.fnOffenceBeforeIs128BitBorrowRow.holds Try.pinned (OpenSpec.ofChange Rows.fnOffenceBeforeIs128BitBorrowSpec) :=
  OpenClaim.holds_of_wide 3 Try.f3 rfl rfl rfl rfl rfl rfl rfl ⟨rfl, rfl, rfl, rfl, rfl⟩ rfl rfl rfl rfl rfl (by kernel_rfl) Try.func3 (by kernel_rfl)
    (of_decide_eq_true (by kernel_rfl)) (by unfold Func.isWrapper; first | (rw [if_pos (by decide +kernel)]; kernel_rfl) | (rw [if_neg (by decide +kernel)]; exact ⟨rfl, rfl⟩))
    (fun os started H enc _ => lifted os started H enc)

/-- ████ THE STATEMENT ████ -/
theorem proved : Rows.FnOffenceBeforeIs128BitBorrowSaid :=
  over
#print axioms proved
end Go.Proofs.Qxb6603011a.fnOffenceBeforeIs128BitBorrow
