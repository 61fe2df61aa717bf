/-
  The proof of 'Rows.FnFloorDivMatchesUnsignedCeilModelSaid'. The frame is the shell that the kit's tool wrote for this function; the plain law and the walk are typed by hand.
-/
import Derived.Test.Qxb6602971aRows
import Derived.Test.Qxb6602971aPlain
import Derived.WalkKit
import Derived.ProofKit
import Derived.OpenShut
import Derived.ShutString
namespace Go.Proofs.Qxb6602971a.fnFloorDivMatchesUnsignedCeilModel
open Go.ChangeShapes Go.WideShapes Go.ChangeAt Go.RowKit
open Go.ChangeMaps (open_string shut_string)
set_option linter.unusedVariables false      -- a walk need not use every 'w<i>' (that an integer argument fits its kind)

theorem own : ownKnob Try.prog.godebug = none := by kernel_rfl

/-! ### THE PLAIN LAW: no Go in sight -/
/-- The ceiling of -a / b, negated, is the floor of a / b. -/
theorem ceil (a b : Int) (hb : 0 < b) : -((-a + b - 1) / b) = a / b := by
  have h1 := Int.emod_nonneg a (show b ≠ 0 by omega)
  have h2 := Int.emod_lt_of_pos a hb
  have h3 := Int.mul_ediv_add_emod a b
  have h4 : b * (-(a / b)) = -(b * (a / b)) := Int.mul_neg _ _
  have h5 := ((Int.ediv_emod_unique (a := -a + b - 1) (r := b - 1 - a % b) (q := -(a / b)) hb).2 ⟨by omega, by omega, by omega⟩).1
  omega

/-- What the model reckons in uint64 for a < 0. -/
theorem wraps (a b : Int) (hb : 0 < b) (ha : a < 0) (ha1 : -9223372036854775808 ≤ a) (hb2 : b ≤ 9223372036854775807) :
    wrap64 (IntKind.u64.wrap (-IntKind.u64.wrap ((IntKind.u64.wrap (IntKind.u64.wrap (IntKind.u64.wrap (-IntKind.u64.wrap a) + b) - 1)).tdiv b))) = a / b := by
  have e1 : IntKind.u64.wrap (-IntKind.u64.wrap a) = -a := by rw [IntKind.wrap_u64, IntKind.wrap_u64]; omega
  have e2 : IntKind.u64.wrap (-a + b) = -a + b := IntWalk.u64_in _ ⟨by omega, by omega⟩
  have e3 : IntKind.u64.wrap (-a + b - 1) = -a + b - 1 := IntWalk.u64_in _ ⟨by omega, by omega⟩
  rw [e1, e2, e3, IntWalk.u64_quo _ _ ⟨by omega, by omega, by omega⟩]
  have h1 := plain.floor_lo a b hb ha1
  have h2 : a / b < 0 := Int.ediv_neg_of_neg_of_pos ha hb
  have h3 := ceil a b hb
  rw [← h3] at h1 h2 ⊢
  generalize (-a + b - 1) / b = c at *
  rw [IntKind.wrap_u64]
  unfold wrap64
  omega

/-! ### THE MODEL's CONTRACT: for b > 0 it answers the floor of a / b -/
theorem model (a b : Int) (hb : 0 < b) (ha1 : -9223372036854775808 ≤ a) (ha2 : a ≤ 9223372036854775807) (hb2 : b ≤ 9223372036854775807) (w : World) :
    Calls Try.prog 8 #[.int .i64 a, .int .i64 b] w fun e w' => e = .returned (.int .i64 (a / b)) ∧ w' = w := by
  by_cases h : 0 ≤ a
  · rw [← IntWalk.wrap64_in (a / b) ⟨plain.floor_lo a b hb ha1, plain.floor_hi a b hb ha2⟩]
    go_enter Try.func8, Try.ntmps8
    go_wp2
    go_ret
    exact ⟨rfl, rfl⟩
  · rw [← wraps a b hb (by omega) ha1 hb2]
    go_enter Try.func8, Try.ntmps8
    go_wp2
    go_ret
    exact ⟨rfl, rfl⟩

/-! ### STEP 1: THE WALK: the Go text returns true. 'Grown w w'': the world has at most new blocks (Derived/RowKit3.lean). Part the cases AHEAD of 'go_enter' where a test parts the walk; take each callee by a contract of your own. -/
theorem walk (a0 : Int) (a1 : Int) (w0 : (Lit.int .i64 a0).wf = true) (w1 : (Lit.int .i64 a1).wf = true) (w : World) :
    Calls Try.prog 3 #[.int .i64 a0, .int .i64 a1] w fun e w' => e = .returned (.bool true) ∧ Grown w w' := by
  have b0 := bounds_i64 w0
  have b1 := bounds_i64 w1
  by_cases hb : a1 ≤ 0
  · go_enter Try.func3, Try.ntmps3
    go_wp2
    go_ret
    exact ⟨rfl, Grown.refl _⟩
  · go_enter Try.func3, Try.ntmps3
    go_wp2_with (first
      | (go_at_call 7; refine (plain.floorDiv a0 a1 (by omega) (by omega) (by omega) (by omega) _).mono ?_; rintro e w' ⟨rfl, rfl⟩)
      | (go_at_call 8; refine (model a0 a1 (by omega) (by omega) (by omega) (by omega) _).mono ?_; rintro e w' ⟨rfl, rfl⟩))
    go_ret
    exact ⟨rfl, Grown.refl _⟩

/-! ### THE ROW's STEP: WRITTEN OUT: LEAVE IT -/
set_option maxRecDepth 100000 in
theorem lifted (os : Os) (started : os.Started) (H : Type) (enc : TypeId × Value → H) :
    ReturnsInHanded {} Try.checked os 3 .any (Rows.fnFloorDivMatchesUnsignedCeilModelSpec.pre6 enc Try.prog Try.f3 Rows.fnFloorDivMatchesUnsignedCeilModelRow.domain false) (Rows.fnFloorDivMatchesUnsignedCeilModelSpec.post enc Try.prog Try.f3 false true false false) := by
  refine returnsInHanded_of_change (C := Try.checked) own started (by kernel_rfl) Try.func3
    (ChangeSpec.witness6 (enc := enc) (C := Try.checked) false ⟨#[], #[.int .i64 0, .int .i64 0], []⟩ 8 (by kernel_rfl) (by kernel_rfl) (by kernel_rfl) (by kernel_rfl)) ?_
  intro W base args ds gs before hval0 hW hcnd _
  have hval : ∀ (j : Nat) t v, Try.f3.params[j]? = some t → args[j]? = some v → Value.okWide Try.prog W .any base t v := hval0
  have hW' := hW
  obtain ⟨p, q, hA0, hV, rfl, hfz, hnd⟩ := hW
  have hA : DataW.TrodAll enc Try.prog W 0 (fun _ => true) true Try.f3.params.toList args.toList ds p := hA0
  rw [Try.params3] at hA hval
  obtain ⟨v0, vs0, d0, ds0, p0, q0, hargs, rfl, rfl, h0, r0⟩ := trodAll_cons hA
  obtain ⟨v1, vs1, d1, ds1, p1, q1, rfl, rfl, rfl, h1, r1⟩ := trodAll_cons r0
  obtain ⟨rfl, rfl, rfl⟩ := trodAll_nil r1
  obtain rfl : args = #[v0, v1] := by cases args; simp_all
  obtain ⟨rfl, rfl⟩ := trodVars_none hV
  obtain ⟨a0, rfl, rfl, rfl, w0⟩ := open_int Try.underlying2 (hval 0 2 v0 rfl rfl) h0
  obtain ⟨a1, rfl, rfl, rfl, w1⟩ := open_int Try.underlying2 (hval 1 2 v1 rfl rfl) h1
  clear hA0 hval0
  simp only [List.append_nil] at hW'
  refine (walk a0 a1 w0 w1 W).mono fun e W' ⟨he, hg⟩ => ?_
  subst he
  exact ⟨_, rfl, post_of_same (pa := []) (pv := []) hW' (fun _ _ _ => (trodAll_cons_mk (shut_bool Try.underlying4 _) trodAll_mk0)) (fun sp _ => (trodAll_cons_mk (shut_int Try.underlying2 w0) (trodAll_cons_mk (shut_int Try.underlying2 w1) trodAll_mk0))) (fun _ _ => rfl) rfl
    (hg.frame _) hg.2.1 (ok_one (by kernel_rfl) rfl (okWide_bool_mk Try.underlying4 _))⟩

theorem over : Rows.fnFloorDivMatchesUnsignedCeilModelRow.holds Try.pinned (OpenSpec.ofChange Rows.fnFloorDivMatchesUnsignedCeilModelSpec) :=
  OpenClaim.holds_of_wide 3 Try.f3 rfl rfl rfl rfl rfl rfl rfl ⟨rfl, rfl, rfl, rfl, rfl⟩ rfl rfl rfl rfl rfl (by kernel_rfl) Try.func3 (by kernel_rfl)
    (of_decide_eq_true (by kernel_rfl)) (by unfold Func.isWrapper; first | (rw [if_pos (by decide +kernel)]; kernel_rfl) | (rw [if_neg (by decide +kernel)]; exact ⟨rfl, rfl⟩))
    (fun os started H enc _ => lifted os started H enc)

/-- ████ THE STATEMENT ████ -/
theorem proved : Rows.FnFloorDivMatchesUnsignedCeilModelSaid :=
  over
#print axioms proved
end Go.Proofs.Qxb6602971a.fnFloorDivMatchesUnsignedCeilModel
