/-
  'choose' and its callees.
-/
import Derived.Test.Qxb6604014aArr
namespace Go.Proofs.Qxb6604014a.choose
open Go.ChangeShapes Go.WideShapes Go.ChangeAt Go.RowKit arr

/-- The kinds of the first k tasks, or-ed together. -/
def orTo (h : Nat → Int) : Nat → Int
  | 0 => 0
  | k + 1 => bits BinOp.or IntKind.u8 (orTo h k) (h k)

/-- The kind of the j-th task. -/
def kind (f g : Nat → Int) (j : Nat) : Int := g (f j).toNat

theorem offered (a0 : Option Addr) (n c0 : Nat) (f : Nat → Int) (b0 off0 : Nat) (a1 : Option Addr) (m c1 : Nat) (g : Nat → Int) (b1 off1 : Nat) (w : World)
    (hA : Arr .i64 w a0 n f b0 off0) (hB : Arr .u8 w a1 m g b1 off1) (hn : n ≤ 65536) (hm : m ≤ 65536) (hr : ∀ j, j < n → 0 ≤ f j ∧ f j < m) :
    Calls Try.prog 40 #[.slice a0 n c0, .slice a1 m c1] w fun e w' => e = .returned (.int .u8 (orTo (kind f g) n)) ∧ w' = w := by
  have HA : Hid (Arr .i64 w a0 n f b0 off0) := hA
  have HB : Hid (Arr .u8 w a1 m g b1 off1) := hB
  have HR : Hid (∀ j, j < n → 0 ≤ f j ∧ f j < m) := hr
  clear hA hB hr
  go_enter Try.func40, Try.ntmps40
  go_wp2
  go_loop [5, 10] (fun s i => ∃ k : Nat, k ≤ n ∧ i = .int .i64 k ∧ s = .int .u8 (orTo (kind f g) k)) (fun _ i => n - (intOf i).toNat)
  case atStart => exact ⟨0, Nat.zero_le _, rfl, rfl⟩
  case round =>
    obtain ⟨k, hk, rfl, rfl⟩ := hrel
    by_cases hlt : k < n
    · obtain rfl := HA.out.head (by omega)
      obtain ⟨r0, r1⟩ := HR.out k hlt
      obtain rfl := HB.out.head (by omega)
      have hz : (k : Int) < (n : Int) := by omega
      have g0 := HA.out.cell k hlt
      have g1 := HB.out.cell (f k).toNat (by omega)
      have eK : kind f g k = g (f k).toNat := rfl
      rw [← eK] at g1
      have eS : orTo (kind f g) (k + 1) = bits BinOp.or IntKind.u8 (orTo (kind f g) k) (kind f g k) := rfl
      have HS := veil eS
      clear eK eS
      generalize kind f g k = q at g1 HS
      generalize orTo (kind f g) k = s at HS ⊢
      go_wp2
      go_round
      case rel => exact ⟨k + 1, by omega, by go_num, by rw [HS.out]⟩
      case measure => simp [intOf]; omega
    · obtain rfl : k = n := by omega
      go_wp2
      go_ret
      exact ⟨rfl, rfl⟩

/-- The closure 'kinds[t] == rc', the captured slice in the box ⟨x, 0⟩. -/
theorem isBoth (t : Int) (x : Nat) (a1 : Option Addr) (m c1 : Nat) (g : Nat → Int) (b1 off1 : Nat) (w : World) (hB : Arr .u8 w a1 m g b1 off1) (hm : m ≤ 65536) (h0 : 0 ≤ t) (h1 : t < m)
    (hx : w.cell? ⟨x, 0, none⟩ = some (.slice a1 m c1)) :
    Calls Try.prog 39 #[.int .i64 t, .pointer (some ⟨x, 0, none⟩)] w fun e w' => e = .returned (.bool (g t.toNat == 3)) ∧ w' = w := by
  obtain rfl := hB.head (by omega)
  have g1 := hB.cell t.toNat (by omega)
  clear hB
  generalize g t.toNat = q at g1 ⊢
  go_enter Try.func39, Try.ntmps39
  go_wp2
  go_ret
  exact ⟨rfl, rfl⟩

/-- An index that is not negative exactly where one of the n numbers is 3. -/
def Found (n : Nat) (h : Nat → Int) (e : Ending) : Prop := ∃ r : Int, e = .returned (.int .i64 r) ∧ (0 ≤ r ↔ ∃ j, j < n ∧ h j = 3)

theorem indexFunc (a0 : Option Addr) (n c0 : Nat) (f : Nat → Int) (b0 off0 : Nat) (x : Nat) (a1 : Option Addr) (m c1 : Nat) (g : Nat → Int) (b1 off1 : Nat) (w : World)
    (hA : Arr .i64 w a0 n f b0 off0) (hB : Arr .u8 w a1 m g b1 off1) (hn : n ≤ 65536) (hm : m ≤ 65536) (hr : ∀ j, j < n → 0 ≤ f j ∧ f j < m)
    (hx : w.cell? ⟨x, 0, none⟩ = some (.slice a1 m c1)) :
    Calls Try.prog 43 #[.slice a0 n c0, .func (.func 39) #[] #[.pointer (some ⟨x, 0, none⟩)]] w fun e w' => Found n (kind f g) e ∧ w' = w := by
  have HA : Hid (Arr .i64 w a0 n f b0 off0) := hA
  have HR : Hid (∀ j, j < n → 0 ≤ f j ∧ f j < m) := hr
  have HP : Hid (∀ t : Int, 0 ≤ t → t < m → Calls Try.prog 39 #[.int .i64 t, .pointer (some ⟨x, 0, none⟩)] w fun e w' => e = .returned (.bool (g t.toNat == 3)) ∧ w' = w) :=
    fun t h0 h1 => isBoth t x a1 m c1 g b1 off1 w hB hm h0 h1 hx
  clear hA hB hr hx
  go_enter Try.func43, Try.ntmps43
  go_wp2
  go_loop [8] (fun i => ∃ k : Nat, k ≤ n ∧ i = .int .i64 k ∧ Hid (∀ j, j < k → kind f g j ≠ 3)) (fun i => n - (intOf i).toNat)
  case atStart => exact ⟨0, Nat.zero_le _, rfl, fun j hj => absurd hj (Nat.not_lt_zero _)⟩
  case round =>
    obtain ⟨k, hk, rfl, hC⟩ := hrel
    by_cases hlt : k < n
    · obtain rfl := HA.out.head (by omega)
      obtain ⟨r0, r1⟩ := HR.out k hlt
      have hz : (k : Int) < (n : Int) := by omega
      have g0 := HA.out.cell k hlt
      have hp := HP.out (f k) r0 r1
      have hk3 : (g (f k).toNat == 3) = decide (kind f g k = 3) := by
        by_cases h : kind f g k = 3
        · rw [decide_eq_true h]
          exact beq_iff_eq.2 h
        · rw [decide_eq_false h]
          exact beq_eq_false_iff_ne.2 h
      rw [hk3] at hp
      clear hk3
      have HQ := veil hp
      clear hp
      by_cases ht : kind f g k = 3
      · rw [decide_eq_true ht] at HQ
        have HT : Hid (kind f g k = 3) := ht
        clear ht
        go_wp2_with fail
        refine HQ.out.mono ?_
        rintro e w' ⟨rfl, rfl⟩
        go_wp2_with fail
        go_ret
        exact ⟨⟨k, rfl, fun _ => ⟨k, hlt, HT.out⟩, fun _ => by omega⟩, rfl⟩
      · rw [decide_eq_false ht] at HQ
        have HT : Hid (¬ kind f g k = 3) := ht
        clear ht
        go_wp2_with fail
        refine HQ.out.mono ?_
        rintro e w' ⟨rfl, rfl⟩
        go_wp2_with fail
        go_round
        case rel =>
          refine ⟨k + 1, by omega, by go_num, fun j hj => ?_⟩
          by_cases hj' : j < k
          · exact hC j hj'
          · obtain rfl : j = k := by omega
            exact HT.out
        case measure => simp [intOf]; omega
    · obtain rfl : k = n := by omega
      go_wp2_with fail
      go_ret
      exact ⟨⟨-1, rfl, fun h => by omega, fun ⟨j, hj, h⟩ => absurd h (hC j hj)⟩, rfl⟩

/-- 'slices.ContainsFunc': is one of the n numbers 3? -/
def Tells (n : Nat) (h : Nat → Int) (e : Ending) : Prop := ∃ t : Bool, e = .returned (.bool t) ∧ (t = true ↔ ∃ j, j < n ∧ h j = 3)

theorem containsFunc (a0 : Option Addr) (n c0 : Nat) (f : Nat → Int) (b0 off0 : Nat) (x : Nat) (a1 : Option Addr) (m c1 : Nat) (g : Nat → Int) (b1 off1 : Nat) (w : World)
    (hA : Arr .i64 w a0 n f b0 off0) (hB : Arr .u8 w a1 m g b1 off1) (hn : n ≤ 65536) (hm : m ≤ 65536) (hr : ∀ j, j < n → 0 ≤ f j ∧ f j < m)
    (hx : w.cell? ⟨x, 0, none⟩ = some (.slice a1 m c1)) :
    Calls Try.prog 37 #[.slice a0 n c0, .func (.func 39) #[] #[.pointer (some ⟨x, 0, none⟩)]] w fun e w' => Tells n (kind f g) e ∧ w' = w := by
  have hp := indexFunc a0 n c0 f b0 off0 x a1 m c1 g b1 off1 w hA hB hn hm hr hx
  have HQ := veil hp
  clear hp hA hB hn hm hr hx
  go_enter Try.func37, Try.ntmps37
  go_wp2_with fail
  refine HQ.out.mono ?_
  rintro e w' ⟨⟨r, rfl, hr⟩, rfl⟩
  have HR := veil hr
  clear hr
  go_wp2_with fail
  go_ret
  exact ⟨⟨_, rfl, by simpa using HR.out⟩, rfl⟩

/-- The choice table over what is or-ed together. -/
def table (s : Int) : Int := if s = 3 then 6 else if s = 1 then 4 else if s = 2 then 3 else 7

/-- 'choose' answers 5 where one kind is 3, else the table's value. -/
def Chosen (w : World) (n : Nat) (h : Nat → Int) (e : Ending) (w' : World) : Prop :=
  ∃ r : Int, e = .returned (.int .u8 r) ∧ ((∃ j, j < n ∧ h j = 3) → r = 5) ∧ ((¬ ∃ j, j < n ∧ h j = 3) → r = table (orTo h n)) ∧ Below w.heap.size w w'

theorem choose (a0 : Option Addr) (n c0 : Nat) (f : Nat → Int) (b0 off0 : Nat) (a1 : Option Addr) (m c1 : Nat) (g : Nat → Int) (b1 off1 : Nat) (w : World)
    (hA : Arr .i64 w a0 n f b0 off0) (hB : Arr .u8 w a1 m g b1 off1) (hn : n ≤ 65536) (hm : m ≤ 65536) (hr : ∀ j, j < n → 0 ≤ f j ∧ f j < m) :
    Calls Try.prog 31 #[.slice a0 n c0, .slice a1 m c1] w fun e w' => Chosen w n (kind f g) e w' := by
  have hb : Below w.heap.size w (w.alloc (.cells #[.slice a1 m c1] 43)) := (Below.refl _ _).alloc (Nat.le_refl _) _
  have hx : (w.alloc (.cells #[.slice a1 m c1] 43)).cell? ⟨w.heap.size, 0, none⟩ = some (.slice a1 m c1) := by simp
  have hp := containsFunc a0 n c0 f b0 off0 w.heap.size a1 m c1 g b1 off1 _ (hA.later hb (Nat.le_refl _)) (hB.later hb (Nat.le_refl _)) hn hm hr hx
  have ho := offered a0 n c0 f b0 off0 a1 m c1 g b1 off1 _ (hA.later hb (Nat.le_refl _)) (hB.later hb (Nat.le_refl _)) hn hm hr
  have HP := veil hp
  have HO := veil ho
  have HW := veil hb
  clear hp ho hA hB hn hm hr hx hb
  go_enter Try.func31, Try.ntmps31
  go_wp2_with fail
  refine HP.out.mono ?_
  rintro e w' ⟨⟨t, rfl, ht⟩, hw⟩
  subst hw
  cases t with
  | true =>
    have HT := veil (ht.1 rfl)
    clear ht
    go_wp2_with fail
    go_ret
    exact ⟨5, rfl, fun _ => rfl, fun h => absurd HT.out h, HW.out⟩
  | false =>
    have hne : ¬ ∃ j, j < n ∧ kind f g j = 3 := fun h => by cases ht.2 h
    have HT := veil hne
    clear ht hne
    go_wp2_with fail
    refine HO.out.mono ?_
    rintro e w' ⟨rfl, hw⟩
    subst hw
    have HE := veil (show Chosen w n (kind f g) (.returned (.int .u8 (table (orTo (kind f g) n)))) _ from ⟨_, rfl, fun h => absurd h HT.out, fun _ => rfl, HW.out⟩)
    clear HP HO HW HT
    generalize orTo (kind f g) n = s at HE ⊢
    by_cases s3 : s = 3
    · subst s3
      go_wp2_with fail
      go_ret
      exact HE.out
    · by_cases s1 : s = 1
      · subst s1
        go_wp2_with fail
        go_ret
        exact HE.out
      · by_cases s2 : s = 2
        · subst s2
          go_wp2_with fail
          go_ret
          exact HE.out
        · have e7 : table s = 7 := by simp [table, s3, s1, s2]
          rw [e7] at HE
          have k3 : (s == 3) = false := beq_eq_false_iff_ne.2 s3
          have k1 : (s == 1) = false := beq_eq_false_iff_ne.2 s1
          have k2 : (s == 2) = false := beq_eq_false_iff_ne.2 s2
          clear s1 s2 s3 e7
          go_wp2_with fail
          go_ret
          exact HE.out

theorem zzChoose (a0 : Option Addr) (n c0 : Nat) (f : Nat → Int) (b0 off0 : Nat) (a1 : Option Addr) (m c1 : Nat) (g : Nat → Int) (b1 off1 : Nat) (w : World)
    (hA : Arr .i64 w a0 n f b0 off0) (hB : Arr .u8 w a1 m g b1 off1) (hn : n ≤ 65536) (hm : m ≤ 65536) (hr : ∀ j, j < n → 0 ≤ f j ∧ f j < m) :
    Calls Try.prog 21 #[.slice a0 n c0, .slice a1 m c1] w fun e w' => Chosen w n (kind f g) e w' := by
  have HP := veil (choose a0 n c0 f b0 off0 a1 m c1 g b1 off1 w hA hB hn hm hr)
  clear hA hB hn hm hr
  go_enter Try.func21, Try.ntmps21
  go_wp2_with fail
  refine HP.out.mono ?_
  rintro e w' ⟨r, rfl, h5, ht, hb⟩
  have HE := veil (show Chosen w n (kind f g) (.returned (.int .u8 r)) w' from ⟨r, rfl, h5, ht, hb⟩)
  clear h5 ht hb HP
  go_wp2_with fail
  go_ret
  exact HE.out
end Go.Proofs.Qxb6604014a.choose
