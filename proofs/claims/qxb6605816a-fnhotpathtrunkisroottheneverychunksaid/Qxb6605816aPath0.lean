/-
  newHotPath (22), ZZnewHotPath (17); what a path is in memory.
-/
import Derived.Test.Qxb6605816aSets
namespace Go.Proofs.Qxb6605816a
open Go.RowKit

set_option maxHeartbeats 400000 in
theorem hot22 (w : World) :
    Calls Try.prog 22 #[] w fun e w' => e = .returned (.agg #[.slice (some ⟨w.heap.size + 1, 0, none⟩) 1 1, .int .i64 0, .int .i64 1, .int .i64 1, .slice none 0 0, .pointer none, .int .u64 0]) ∧
      w' = (w.alloc (.cells #[.slice (some ⟨w.heap.size + 1, 0, none⟩) 1 1, .int .i64 0, .int .i64 1, .int .i64 1, .slice none 0 0, .pointer none, .int .u64 0] 52)).alloc (.cells #[.int .i64 0] 3) := by
  go_enter Try.func22, Try.ntmps22
  go_wp2
  exact bodyPost_ret (v := .agg #[.slice (some ⟨w.heap.size + 1, 0, none⟩) 1 1, .int .i64 0, .int .i64 1, .int .i64 1, .slice none 0 0, .pointer none, .int .u64 0]) (by simp [results, Try.results22, go_sem]) rfl ⟨rfl, rfl⟩

theorem heap3_2 (w : World) (a b c : Obj) : (((w.alloc a).alloc b).alloc c).heap[w.heap.size + 2]? = some c := by
  show ((((w.heap.push a).push b).push c))[w.heap.size + 2]? = _
  simp only [Array.getElem?_push, Array.size_push]
  rw [if_pos trivial]
theorem heap3_1 (w : World) (a b c : Obj) : (((w.alloc a).alloc b).alloc c).heap[w.heap.size + 1]? = some b := by
  show ((((w.heap.push a).push b).push c))[w.heap.size + 1]? = _
  simp only [Array.getElem?_push, Array.size_push]
  rw [if_neg (by omega), if_pos trivial]

set_option maxHeartbeats 400000 in
theorem newHot_any (w : World) :
    Calls Try.prog 17 #[] w fun e w' => e = .returned (.pointer (some ⟨w.heap.size + 2, 0, none⟩)) ∧
      w'.heap[w.heap.size + 2]? = some (.cells #[.slice (some ⟨w.heap.size + 1, 0, none⟩) 1 1, .int .i64 0, .int .i64 1, .int .i64 1, .slice none 0 0, .pointer none, .int .u64 0] 52 (0, 0)) ∧
      w'.heap[w.heap.size + 1]? = some (.cells #[.int .i64 0] 3 (0, 0)) ∧ Below w.heap.size w w' := by
  go_enter Try.func17, Try.ntmps17
  go_wp2_with (go_at_call 22; refine (hot22 _).mono ?_; rintro e w' ⟨rfl, rfl⟩)
  go_ret
  exact ⟨rfl, heap3_2 _ _ _ _, heap3_1 _ _ _ _, (((Below.refl _ _).alloc (Nat.le_refl _) _).alloc (by simp) _).alloc (by simp; omega) _⟩

/-- The struct's cells. -/
def pathCells (g M f e : Nat) : Array Value := #[.slice (some ⟨g, 0, none⟩) M M, .int .i64 f, .int .i64 e, .int .i64 1, .slice none 0 0, .pointer none, .int .u64 0]

/-- A hot path at block hp, its memory the whole of block g, M cells, of which those from f to e spell T. -/
structure Path (w : World) (hp g M f e : Nat) (T : List Int) : Prop where
  str : w.heap[hp]? = some (.cells (pathCells g M f e) 52 (0, 0))
  row : ∃ cur : List Int, w.heap[g]? = some (.cells (cur.map (Value.int .i64)).toArray 3 (0, 0)) ∧ cur.length = M ∧ (cur.drop f).take (e - f) = T
  fe : f ≤ e
  eM : e ≤ M
  big : M ≤ 1073741824

theorem Path.ne {w : World} {hp g M f e : Nat} {T : List Int} (h : Path w hp g M f e T) : hp ≠ g := by
  intro he
  obtain ⟨cur, hc, _⟩ := h.row
  have := h.str
  rw [he, hc] at this
  simp at this
theorem Path.len {w : World} {hp g M f e : Nat} {T : List Int} (h : Path w hp g M f e T) : T.length = e - f := by
  obtain ⟨cur, _, hl, hT⟩ := h.row
  have := h.fe; have := h.eM
  rw [← hT]; simp; omega
theorem cell_of_heap {w : World} {b o : Nat} {cs : Array Value} {t : TypeId} (h : w.heap[b]? = some (.cells cs t (0, 0))) : w.cell? ⟨b, o, none⟩ = cs[o]? := cell_of_row w b o cs t (0, 0) h
theorem frozen_of_heap {w : World} {b o : Nat} {cs : Array Value} {t : TypeId} (h : w.heap[b]? = some (.cells cs t (0, 0))) : w.frozen? ⟨b, o, none⟩ = false := frozen_of_row w b o cs t h

theorem Path.c0 {w : World} {hp g M f e : Nat} {T : List Int} (h : Path w hp g M f e T) : w.cell? ⟨hp, 0, none⟩ = some (.slice (some ⟨g, 0, none⟩) M M) := by rw [cell_of_heap h.str]; rfl
theorem Path.c1 {w : World} {hp g M f e : Nat} {T : List Int} (h : Path w hp g M f e T) : w.cell? ⟨hp, 1, none⟩ = some (.int .i64 f) := by rw [cell_of_heap h.str]; rfl
theorem Path.c2 {w : World} {hp g M f e : Nat} {T : List Int} (h : Path w hp g M f e T) : w.cell? ⟨hp, 2, none⟩ = some (.int .i64 e) := by rw [cell_of_heap h.str]; rfl
theorem Path.c3 {w : World} {hp g M f e : Nat} {T : List Int} (h : Path w hp g M f e T) : w.cell? ⟨hp, 3, none⟩ = some (.int .i64 1) := by rw [cell_of_heap h.str]; rfl
theorem Path.c4 {w : World} {hp g M f e : Nat} {T : List Int} (h : Path w hp g M f e T) : w.cell? ⟨hp, 4, none⟩ = some (.slice none 0 0) := by rw [cell_of_heap h.str]; rfl
theorem Path.c5 {w : World} {hp g M f e : Nat} {T : List Int} (h : Path w hp g M f e T) : w.cell? ⟨hp, 5, none⟩ = some (.pointer none) := by rw [cell_of_heap h.str]; rfl
theorem Path.c6 {w : World} {hp g M f e : Nat} {T : List Int} (h : Path w hp g M f e T) : w.cell? ⟨hp, 6, none⟩ = some (.int .u64 0) := by rw [cell_of_heap h.str]; rfl
theorem Path.fz {w : World} {hp g M f e : Nat} {T : List Int} (h : Path w hp g M f e T) (o : Nat) : w.frozen? ⟨hp, o, none⟩ = false := frozen_of_heap h.str

end Go.Proofs.Qxb6605816a
