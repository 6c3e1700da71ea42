/-
  Words for this seat: numbers that lie in memory; rows of them. No Go in sight.
-/
import Derived.Below
import Derived.WalkKit
namespace Go.Proofs.Qxb6605816a
open Go.RowKit

theorem hide' {p : Prop} (h : p) : Hid p := h
theorem ret_bool {a b : Bool} (h : a = b) : Ending.returned (.bool a) = .returned (.bool b) := by rw [h]
theorem ret_int {k : IntKind} {a b : Int} (h : a = b) : Ending.returned (.int k a) = .returned (.int k b) := by rw [h]
def SomeBool (e : Ending) : Prop := ∃ z : Bool, e = .returned (.bool z)

/-- n ints from (b, off) on. -/
def Lie (w : World) (b off : Nat) (zs : List Int) : Prop :=
  b < w.heap.size ∧ ∀ j, j < zs.length → w.cell? ⟨b, off + j, none⟩ = some (.int .i64 (zs.getD j 0))
/-- The elements of a slice of ints whose address is A. -/
def IntsAt (w : World) (A : Option Addr) (zs : List Int) : Prop :=
  zs = [] ∨ ∃ b off, A = some ⟨b, off, none⟩ ∧ Lie w b off zs
/-- A slice of slices of ints: cell j of the outer row holds a slice at 'A j' with capacity 'C j' whose elements are the j-th of Z. -/
def RowsAt (w : World) (b off : Nat) (A : Nat → Option Addr) (C : Nat → Nat) (Z : List (List Int)) : Prop :=
  b < w.heap.size ∧ ∀ j, j < Z.length → w.cell? ⟨b, off + j, none⟩ = some (.slice (A j) (Z.getD j []).length (C j)) ∧ ((A j = none → C j = 0) ∧ (Z.getD j []).length ≤ C j) ∧ IntsAt w (A j) (Z.getD j [])

theorem Lie.later {w w' : World} {b off : Nat} {zs : List Int} (h : Lie w b off zs) {B : Nat} (hb : Below B w w') (hB : b < B) : Lie w' b off zs :=
  ⟨Nat.lt_of_lt_of_le h.1 hb.size, fun j hj => (hb.cell (p := ⟨b, off + j, none⟩) hB).trans (h.2 j hj)⟩
theorem IntsAt.later {w w' : World} {A : Option Addr} {zs : List Int} (h : IntsAt w A zs) (hb : Below w.heap.size w w') : IntsAt w' A zs := by
  rcases h with h | ⟨b, off, hA, h⟩
  · exact .inl h
  · exact .inr ⟨b, off, hA, h.later hb h.1⟩
theorem RowsAt.later {w w' : World} {b off : Nat} {A : Nat → Option Addr} {C : Nat → Nat} {Z : List (List Int)} (h : RowsAt w b off A C Z) (hb : Below w.heap.size w w') : RowsAt w' b off A C Z :=
  ⟨Nat.lt_of_lt_of_le h.1 hb.size, fun j hj => ⟨(hb.cell (p := ⟨b, off + j, none⟩) h.1).trans (h.2 j hj).1, (h.2 j hj).2.1, (h.2 j hj).2.2.later hb⟩⟩

/-- How many ints in all. -/
def total (Z : List (List Int)) : Nat := (Z.map List.length).sum
theorem total_take_succ (Z : List (List Int)) (k : Nat) (h : k < Z.length) : total (Z.take (k + 1)) = total (Z.take k) + (Z.getD k []).length := by
  unfold total
  rw [List.take_succ_eq_append_getElem h, List.map_append, List.sum_append, List.getD, List.getElem?_eq_getElem h]
  rfl
theorem len_le_total {Z : List (List Int)} {k : Nat} (h : k < Z.length) : (Z.getD k []).length ≤ total Z := by
  have h1 := total_take_succ Z k h
  have h2 : total Z = total (Z.take (k + 1)) + total (Z.drop (k + 1)) := by
    unfold total
    rw [← List.sum_append, ← List.map_append, List.take_append_drop]
  omega
theorem total_take_le (Z : List (List Int)) (k : Nat) : total (Z.take k) ≤ total Z := by
  have h2 : total Z = total (Z.take k) + total (Z.drop k) := by
    unfold total
    rw [← List.sum_append, ← List.map_append, List.take_append_drop]
  omega

/-- A row that is being filled: the first k of zs, zeros behind. -/
def xsAt (zs : List Int) (k : Nat) : List Value := (zs.take k).map (Value.int .i64) ++ List.replicate (zs.length - k) (Value.int .i64 0)
theorem xsAt_zero (zs : List Int) : xsAt zs 0 = List.replicate zs.length (Value.int .i64 0) := by simp [xsAt]
theorem xsAt_full (zs : List Int) : xsAt zs zs.length = zs.map (Value.int .i64) := by simp [xsAt]
theorem xsAt_set (zs : List Int) (k : Nat) (h : k < zs.length) : (xsAt zs k).set k (Value.int .i64 (zs.getD k 0)) = xsAt zs (k + 1) := by
  unfold xsAt
  rw [List.set_append_right _ _ (by simp; omega)]
  have e1 : k - ((zs.take k).map (Value.int .i64)).length = 0 := by simp; omega
  have e2 : List.replicate (zs.length - k) (Value.int .i64 0) = Value.int .i64 0 :: List.replicate (zs.length - (k + 1)) (Value.int .i64 0) := by
    rw [show zs.length - k = (zs.length - (k + 1)) + 1 from by omega, List.replicate_succ]
  rw [e1, e2, List.set_cons_zero, List.take_succ_eq_append_getElem h, List.map_append, List.append_assoc, List.getD, List.getElem?_eq_getElem h]
  rfl

/-- What a row of the call's own holds lies. -/
theorem lie_own {w : World} {base g n cap : Nat} {zs : List Int} (h : w.ownsRow base 3 1 (.slice (some ⟨g, 0, none⟩) n cap) n (zs.map (Value.int .i64))) : Lie w g 0 zs := by
  have hl : zs.length = n := by simpa using h.1
  refine ⟨(h.lt g rfl).2, fun j hj => ?_⟩
  rw [Nat.zero_add, h.cellAt j (by omega)]
  simp [hj]

end Go.Proofs.Qxb6605816a
