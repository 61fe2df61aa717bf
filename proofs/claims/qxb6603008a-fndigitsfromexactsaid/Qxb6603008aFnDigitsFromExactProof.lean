/-
  The proof of 'Rows.FnDigitsFromExactSaid'. The frame is the shell that the kit's tool wrote for this function; the contracts and the walk are typed by hand.
-/
import Derived.Test.Qxb6603008aRows
import Derived.Test.Qxb6603008aDigits
import Derived.WalkKit
import Derived.ProofKit
import Derived.OpenShut
import Derived.ShutString
namespace Go.Proofs.Qxb6603008a.fnDigitsFromExact
open Go.ChangeShapes Go.WideShapes Go.ChangeAt Go.RowKit
open Go.ChangeMaps (open_string shut_string)
set_option linter.unusedVariables false      -- a walk need not use every 'w<i>' (that an integer argument fits its kind)

theorem own : ownKnob Try.prog.godebug = none := by kernel_rfl

/-! ### 'zzBytes_FnDigitsFromExact', 'zzIsDigit' -/
theorem small (s : ByteArray) (i : Int) (hs : s.size ≤ 1048576) (w : World) :
    Calls Try.prog 7 #[.string s, .int .i64 i] w fun e w' => e = .returned (.bool true) ∧ w' = w := by
  go_enter Try.func7, Try.ntmps7
  go_wp2
  go_ret
  exact ⟨rfl, rfl⟩

theorem big (s : ByteArray) (i : Int) (hs : 1048576 < s.size) (hm : s.size ≤ maxLen) (w : World) :
    Calls Try.prog 7 #[.string s, .int .i64 i] w fun e w' => e = .returned (.bool false) ∧ w' = w := by
  unfold maxLen at hm
  go_enter Try.func7, Try.ntmps7
  go_wp2
  go_ret
  exact ⟨rfl, rfl⟩

theorem digit (c : Int) (h1 : 48 ≤ c) (h2 : c ≤ 57) (w : World) :
    Calls Try.prog 9 #[.int .u8 c] w fun e w' => e = .returned (.bool true) ∧ w' = w := by
  go_enter Try.func9, Try.ntmps9
  go_wp2
  go_ret
  exact ⟨rfl, rfl⟩

theorem noDigit (c : Int) (h : ¬ (48 ≤ c ∧ c ≤ 57)) (w : World) :
    Calls Try.prog 9 #[.int .u8 c] w fun e w' => e = .returned (.bool false) ∧ w' = w := by
  by_cases h1 : 48 ≤ c
  · have h2 : ¬ c ≤ 57 := fun h2 => h ⟨h1, h2⟩
    clear h
    go_enter Try.func9, Try.ntmps9
    go_wp2
    go_ret
    exact ⟨rfl, rfl⟩
  · clear h
    go_enter Try.func9, Try.ntmps9
    go_wp2
    go_ret
    exact ⟨rfl, rfl⟩


/-! ### STEP 1: THE WALK: the Go text returns true. 'Grown w w'': the world has at most new blocks (Derived/RowKit3.lean). Part the cases AHEAD of 'go_enter' where a test parts the walk; take each callee by a contract of your own. -/
theorem walk (a0 : ByteArray) (a1 : Int) (w0 : a0.size ≤ maxLen) (w1 : (Lit.int .i64 a1).wf = true) (w : World) :
    Calls Try.prog 3 #[.string a0, .int .i64 a1] w fun e w' => e = .returned (.bool true) ∧ Grown w w' := by
  have b1 := bounds_i64 w1
  by_cases hs : a0.size ≤ 1048576
  · by_cases c1 : a1 < 0
    · go_enter Try.func3, Try.ntmps3
      go_wp2_with (go_at_call 7; refine (small a0 a1 hs _).mono ?_; rintro e w' ⟨rfl, rfl⟩)
      go_ret
      exact ⟨rfl, Grown.refl _⟩
    obtain ⟨i, rfl⟩ := Int.eq_ofNat_of_zero_le (show 0 ≤ a1 by omega)
    by_cases c2 : a0.size ≤ i
    · go_enter Try.func3, Try.ntmps3
      go_wp2_with fail
      refine (small a0 i hs _).mono ?_
      rintro e w' ⟨rfl, rfl⟩
      go_wp2_with fail
      refine (digits.zzDigitsFrom a0 i hs _).mono ?_
      rintro e w' ⟨⟨r, rfl, H⟩, rfl⟩
      obtain rfl := H.out c2
      clear H
      go_wp2_with fail
      go_ret
      exact ⟨rfl, Grown.refl _⟩
    · go_enter Try.func3, Try.ntmps3
      go_wp2_with fail
      refine (small a0 i hs _).mono ?_
      rintro e w' ⟨rfl, rfl⟩
      go_wp2_with fail
      refine (digits.zzDigitsFrom a0 i hs _).mono ?_
      rintro e w' ⟨⟨r, rfl, H⟩, rfl⟩
      have m1 := H.1
      have m2 := H.inside (by omega)
      have n1 : decide (r < i) = false := decide_eq_false (by omega)
      have n2 : decide (a0.size < r) = false := decide_eq_false (by omega)
      have HR : Hid (digits.Run a0 i r) := H
      clear H
      go_wp2_with fail
      go_loop [6] (fun k => ∃ n : Nat, i ≤ n ∧ n ≤ r ∧ k = .int .i64 n) (fun k => r - (intOf k).toNat)
      case atStart => exact ⟨i, Nat.le_refl _, m1, rfl⟩
      case round =>
        obtain ⟨n, hn1, hn2, rfl⟩ := hrel
        by_cases hlt : n < r
        · obtain ⟨d1, d2, d3⟩ := HR.out.2.1 n hn1 hlt
          go_wp2_with (go_at_call 9; refine (digit _ d2 d3 _).mono ?_; rintro e w' ⟨rfl, rfl⟩)
          go_round
          case rel => exact ⟨n + 1, by omega, by omega, by go_num⟩
          case measure => simp [intOf]; omega
        · obtain rfl : n = r := by omega
          by_cases hend : n = a0.size
          · have t1 : ((n : Int) == (a0.size : Int)) = true := beq_iff_eq.2 (by omega)
            clear hend
            go_wp2_with fail
            go_ret
            exact ⟨rfl, Grown.refl _⟩
          · have t1 : ((n : Int) == (a0.size : Int)) = false := beq_eq_false_iff_ne.2 (by omega)
            have d1 : n < a0.size := by omega
            have nd := HR.out.2.2
            have nd' : ¬ (48 ≤ (a0[n].toNat : Int) ∧ (a0[n].toNat : Int) ≤ 57) := fun h => nd ⟨d1, h⟩
            have HN : Hid (¬ (48 ≤ (a0[n].toNat : Int) ∧ (a0[n].toNat : Int) ≤ 57)) := nd'
            clear nd nd' hend
            go_wp2_with fail
            refine (noDigit _ HN.out _).mono ?_
            rintro e w' ⟨rfl, rfl⟩
            go_wp2_with fail
            go_ret
            exact ⟨rfl, Grown.refl _⟩
  · go_enter Try.func3, Try.ntmps3
    go_wp2_with (go_at_call 7; refine (big a0 a1 (by omega) w0 _).mono ?_; rintro e w' ⟨rfl, rfl⟩)
    go_ret
    exact ⟨rfl, Grown.refl _⟩

/-! ### THE ROW's STEP: WRITTEN OUT: LEAVE IT -/
set_option maxRecDepth 100000 in
theorem lifted (os : Os) (started : os.Started) (H : Type) (enc : TypeId × Value → H) :
    ReturnsInHanded {} Try.checked os 3 .any (Rows.fnDigitsFromExactSpec.pre6 enc Try.prog Try.f3 Rows.fnDigitsFromExactRow.domain false) (Rows.fnDigitsFromExactSpec.post enc Try.prog Try.f3 false true false false) := by
  refine returnsInHanded_of_change (C := Try.checked) own started (by kernel_rfl) Try.func3
    (ChangeSpec.witness6 (enc := enc) (C := Try.checked) false ⟨#[], #[.string ByteArray.empty, .int .i64 0], []⟩ 8 (by kernel_rfl) (by kernel_rfl) (by kernel_rfl) (by kernel_rfl)) ?_
  intro W base args ds gs before hval0 hW hcnd _
  have hval : ∀ (j : Nat) t v, Try.f3.params[j]? = some t → args[j]? = some v → Value.okWide Try.prog W .any base t v := hval0
  have hW' := hW
  obtain ⟨p, q, hA0, hV, rfl, hfz, hnd⟩ := hW
  have hA : DataW.TrodAll enc Try.prog W 0 (fun _ => true) true Try.f3.params.toList args.toList ds p := hA0
  rw [Try.params3] at hA hval
  obtain ⟨v0, vs0, d0, ds0, p0, q0, hargs, rfl, rfl, h0, r0⟩ := trodAll_cons hA
  obtain ⟨v1, vs1, d1, ds1, p1, q1, rfl, rfl, rfl, h1, r1⟩ := trodAll_cons r0
  obtain ⟨rfl, rfl, rfl⟩ := trodAll_nil r1
  obtain rfl : args = #[v0, v1] := by cases args; simp_all
  obtain ⟨rfl, rfl⟩ := trodVars_none hV
  obtain ⟨a0, rfl, rfl, rfl, w0⟩ := open_string Try.underlying9 (hval 0 9 v0 rfl rfl) h0
  obtain ⟨a1, rfl, rfl, rfl, w1⟩ := open_int Try.underlying3 (hval 1 3 v1 rfl rfl) h1
  clear hA0 hval0
  simp only [List.append_nil] at hW'
  refine (walk a0 a1 w0 w1 W).mono fun e W' ⟨he, hg⟩ => ?_
  subst he
  exact ⟨_, rfl, post_of_same (pa := []) (pv := []) hW' (fun _ _ _ => (trodAll_cons_mk (shut_bool Try.underlying4 _) trodAll_mk0)) (fun sp _ => (trodAll_cons_mk (shut_string Try.underlying9 w0) (trodAll_cons_mk (shut_int Try.underlying3 w1) trodAll_mk0))) (fun _ _ => rfl) rfl
    (hg.frame _) hg.2.1 (ok_one (by kernel_rfl) rfl (okWide_bool_mk Try.underlying4 _))⟩

theorem over : Rows.fnDigitsFromExactRow.holds Try.pinned (OpenSpec.ofChange Rows.fnDigitsFromExactSpec) :=
  OpenClaim.holds_of_wide 3 Try.f3 rfl rfl rfl rfl rfl rfl rfl ⟨rfl, rfl, rfl, rfl, rfl⟩ rfl rfl rfl rfl rfl (by kernel_rfl) Try.func3 (by kernel_rfl)
    (of_decide_eq_true (by kernel_rfl)) (by unfold Func.isWrapper; first | (rw [if_pos (by decide +kernel)]; kernel_rfl) | (rw [if_neg (by decide +kernel)]; exact ⟨rfl, rfl⟩))
    (fun os started H enc _ => lifted os started H enc)

/-- ████ THE STATEMENT ████ -/
theorem proved : Rows.FnDigitsFromExactSaid :=
  over
#print axioms proved
end Go.Proofs.Qxb6603008a.fnDigitsFromExact
