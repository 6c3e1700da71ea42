/-
  From the form's reading of a [][]int, a []int to this seat's words.
-/
import Derived.Test.Qxb6605816aBase
import Derived.ProofKit
import Derived.Deep.Matrix
namespace Go.Proofs.Qxb6605816a
open Go.ChangeShapes Go.WideShapes Go.ChangeAt Go.RowKit Go.Deep

theorem cell_lt {w : World} {a : Addr} {v : Value} (h : w.cell? a = some v) : a.block < w.heap.size := by
  rcases Nat.lt_or_ge a.block w.heap.size with hlt | hge
  · exact hlt
  · have : w.heap[a.block]? = none := Array.getElem?_eq_none hge
    simp [World.cell?, this] at h

/-- The rows as lists. -/
def rowsOf (len : Nat) (L : Nat → Nat) (Z : Nat → List Int) : List (List Int) := (List.range len).map fun r => (Z r).take (L r)
theorem rowsOf_length (len : Nat) (L : Nat → Nat) (Z : Nat → List Int) : (rowsOf len L Z).length = len := by simp [rowsOf]
theorem rowsOf_getD {len : Nat} {L : Nat → Nat} {Z : Nat → List Int} {j : Nat} (hj : j < len) : (rowsOf len L Z).getD j [] = (Z j).take (L j) := by
  simp [rowsOf, List.getD, hj]

theorem ints_of_cells {w : World} {A : Option Addr} {L C : Nat} {Z : List Int} (hLC : L ≤ C) (hZ : Z.length = C) (hn : A = none → C = 0) (hc : ∀ a', A = some a' → ∀ c, c < C → w.cell? (a'.add c) = some (.int .i64 (Z.getD c 0))) : IntsAt w A (Z.take L) := by
  by_cases h0 : L = 0
  · left; rw [h0]; rfl
  right
  cases A with
  | none => have := hn rfl; omega
  | some a' =>
    have h1 := hc a' rfl
    obtain ⟨b, off, spot⟩ := a'
    have hspot : spot = none := by simpa [Addr.add] using World.cell?_spot (h1 0 (by omega))
    subst hspot
    have h2 := h1 0 (by omega)
    refine ⟨b, off, rfl, ?_, fun j hj => ?_⟩
    · have := cell_lt h2
      simpa [Addr.add] using this
    · have hj' : j < L := by simp at hj; omega
      have := h1 j (by omega)
      rw [add_plain] at this
      rw [this]
      simp [List.getD, hj']

theorem rows_of_cells {w : World} {b off len cap : Nat} {A : Nat → Option Addr} {L C : Nat → Nat} {Z : Nat → List Int} (hl : len ≤ cap) (h0 : 0 < len)
    (h : ∀ r, r < cap → w.cell? ((⟨b, off, none⟩ : Addr).add r) = some (.slice (A r) (L r) (C r)) ∧ L r ≤ C r ∧ C r ≤ maxLen ∧ (Z r).length = C r ∧ (∀ n ∈ Z r, (Lit.int .i64 n).wf = true) ∧ (A r = none → C r = 0) ∧
        ∀ a', A r = some a' → 0 ≤ a'.block ∧ ∀ c, c < C r → w.cell? (a'.add c) = some (.int .i64 ((Z r).getD c 0))) :
    RowsAt w b off A C (rowsOf len L Z) := by
  refine ⟨?_, fun j hj => ?_⟩
  · have := cell_lt (h 0 (by omega)).1
    simpa [Addr.add] using this
  · rw [rowsOf_length] at hj
    obtain ⟨h1, h2, h3, h4, h5, h6, h7⟩ := h j (by omega)
    rw [rowsOf_getD hj]
    refine ⟨?_, ⟨h6, by rw [List.length_take]; omega⟩, ints_of_cells h2 h4 h6 (fun a' ha => (h7 a' ha).2)⟩
    rw [add_plain] at h1
    rw [h1, List.length_take, h4, Nat.min_eq_left h2]

theorem rows_short {w : World} {len cap : Nat} {A : Nat → Option Addr} {L C : Nat → Nat} {Z : Nat → List Int} {a : Addr} (hl : len ≤ cap)
    (h : ∀ r, r < cap → w.cell? (a.add r) = some (.slice (A r) (L r) (C r)) ∧ L r ≤ C r ∧ C r ≤ maxLen ∧ (Z r).length = C r ∧ (∀ n ∈ Z r, (Lit.int .i64 n).wf = true) ∧ (A r = none → C r = 0) ∧
        ∀ a', A r = some a' → 0 ≤ a'.block ∧ ∀ c, c < C r → w.cell? (a'.add c) = some (.int .i64 ((Z r).getD c 0))) :
    ∀ j, j < len → ((rowsOf len L Z).getD j []).length ≤ 9223372036854775807 := by
  intro j hj
  obtain ⟨_, h2, h3, h4, _⟩ := h j (by omega)
  rw [rowsOf_getD hj, List.length_take]
  unfold maxLen at h3
  omega

end Go.Proofs.Qxb6605816a
