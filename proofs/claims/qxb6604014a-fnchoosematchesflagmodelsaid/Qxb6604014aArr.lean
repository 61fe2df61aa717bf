/-
  What the walks are told of a slice of integers that they read: its first n cells hold f 0, f 1, ..
-/
import Derived.Test.Qxb6604014aRows
import Derived.WalkKit
import Derived.ProofKit
import Derived.Below
import Derived.Deep.OwnRows
namespace Go.Proofs.Qxb6604014a.arr
open Go.ChangeShapes Go.WideShapes Go.ChangeAt Go.RowKit

/-- A fact kept from the walk. -/
theorem veil {p : Prop} (h : p) : Hid p := h

/-- The slice '.slice a n _' leads to n cells from ⟨b, off⟩ on, which hold the numbers f 0 .. f (n - 1). -/
structure Arr (k : IntKind) (w : World) (a : Option Addr) (n : Nat) (f : Nat → Int) (b off : Nat) : Prop where
  head : 0 < n → a = some ⟨b, off, none⟩
  cell : ∀ j, j < n → w.cell? ⟨b, off + j, none⟩ = some (.int k (f j))

theorem Arr.later {k : IntKind} {w w' : World} {a : Option Addr} {n : Nat} {f : Nat → Int} {b off B : Nat} (h : Arr k w a n f b off) (hb : Below B w w') (hB : w.heap.size ≤ B) :
    Arr k w' a n f b off :=
  ⟨h.head, fun j hj => (hb.cell (p := ⟨b, off + j, none⟩) (Nat.lt_of_lt_of_le (World.block_lt_of_cell? _ _ (h.cell j hj)) hB)).trans (h.cell j hj)⟩

theorem Arr.lt {k : IntKind} {w : World} {a : Option Addr} {n : Nat} {f : Nat → Int} {b off : Nat} (h : Arr k w a n f b off) (hn : 0 < n) : b < w.heap.size :=
  World.block_lt_of_cell? _ _ (h.cell 0 hn)

/-- A row of the call's own, read as a slice from its head. -/
theorem Arr.own {k : IntKind} {w : World} {b n : Nat} {t : TypeId} {f : Nat → Int} (h : w.rowIs b t n (fun j => .int k (f j))) : Arr k w (some ⟨b, 0, none⟩) n f b 0 :=
  ⟨fun _ => rfl, fun j hj => by rw [Nat.zero_add]; exact h.cell hj⟩

/-- A slice without elements. -/
theorem Arr.none {k : IntKind} {w : World} {a : Option Addr} {f : Nat → Int} {b off : Nat} : Arr k w a 0 f b off :=
  ⟨fun h => absurd h (Nat.lt_irrefl _), fun _ h => absurd h (Nat.not_lt_zero _)⟩

/-- A call answers a slice of n elements that hold f, and turns nothing that was there. -/
def Made (k : IntKind) (w : World) (n : Nat) (f : Nat → Int) (e : Ending) (w' : World) : Prop :=
  ∃ (a : Option Addr) (c b off : Nat), e = .returned (.slice a n c) ∧ Arr k w' a n f b off ∧ Below w.heap.size w w'

/-- What holds at the head of a copying loop, i cells copied. -/
structure Copying (k : IntKind) (t : TypeId) (w wr : World) (n : Nat) (f : Nat → Int) (i : Nat) : Prop where
  below : Below w.heap.size w wr
  row : wr.rowIs w.heap.size t n (fun j => .int k (if j < i then f j else 0))

theorem Copying.start (k : IntKind) (t : TypeId) (w : World) (n : Nat) (f : Nat → Int) : Copying k t w (w.alloc (.cells (madeCells #[.int k 0] n) t)) n f 0 :=
  ⟨(Below.refl _ _).alloc (Nat.le_refl _) _, (World.rowIs_made w _ n t).congr (fun j _ => by simp)⟩

theorem Copying.step {k : IntKind} {t : TypeId} {w wr : World} {n : Nat} {f : Nat → Int} {i : Nat} (h : Copying k t w wr n f i) :
    Copying k t w (wr.setCell ⟨w.heap.size, i, none⟩ (.int k (f i))) n f (i + 1) := by
  refine ⟨h.below.setCell (Nat.le_refl _) _, (h.row.set i _).congr (fun j _ => ?_)⟩
  by_cases e : j = i
  · subst e
    simp
  · rw [if_neg e]
    by_cases hlt : j < i
    · rw [if_pos hlt, if_pos (by omega)]
    · rw [if_neg hlt, if_neg (by omega)]

theorem Copying.done {k : IntKind} {t : TypeId} {w wr : World} {n : Nat} {f : Nat → Int} (h : Copying k t w wr n f n) :
    Made k w n f (.returned (.slice (some ⟨w.heap.size, 0, Option.none⟩) n n)) wr :=
  ⟨_, _, _, _, rfl, Arr.own (h.row.congr (fun j hj => by rw [if_pos hj])), h.below⟩
end Go.Proofs.Qxb6604014a.arr
