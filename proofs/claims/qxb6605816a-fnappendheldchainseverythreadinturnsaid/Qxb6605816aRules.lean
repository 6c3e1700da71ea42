/-
  ZZnewLockset (13), ZZnewRules (11), ZZsetHeld (12), AppendHeld (14).
-/
import Derived.Test.Qxb6605816aHeld
namespace Go.Proofs.Qxb6605816a
open Go.RowKit

theorem Try.info48 : (Try.prog.info? 48).map (fun i => (i.zero, i.size, i.bytes)) = some (some (.agg #[.slice none 0 0, .pointer none, .slice none 0 0, .slice none 0 0]), 4, 80) := by kernel_rfl

set_option maxHeartbeats 400000 in
theorem newLock_any (v : Value) (A : Option Addr) (m C : Nat) (w : World) (hv : v = .slice A m C) :
    Calls Try.prog 13 #[v] w fun e w' => e = .returned (.pointer (some ⟨w.heap.size, 0, none⟩)) ∧ w' = w.alloc (.cells #[.slice A m C] 50) := by
  subst hv
  go_enter Try.func13, Try.ntmps13
  go_wp2
  go_ret
  exact ⟨rfl, rfl⟩

set_option maxHeartbeats 400000 in
theorem setHeld_any (r hb n t : Nat) (sp : Option Addr) (v : Value) (w : World) (ht : t < n) (h0 : w.cell? ⟨r, 0, none⟩ = some (.slice (some ⟨hb, 0, none⟩) n n))
    (h1 : w.cell? ⟨hb, t * 4 + 1, none⟩ = some v) (hf : w.frozen? ⟨hb, t * 4 + 1, none⟩ = false) :
    Calls Try.prog 12 #[.pointer (some ⟨r, 0, none⟩), .int .i64 t, .pointer sp] w fun e w' => e = .returned (.tuple #[]) ∧ w' = w.setCell ⟨hb, t * 4 + 1, none⟩ (.pointer sp) := by
  have k1 : (t : Int) < (n : Int) := by omega
  go_enter Try.func12, Try.ntmps12
  go_wp2
  go_end0
  exact ⟨rfl, rfl⟩

/-- A thread's set: none, or a struct of one cell that holds the slice. -/
def SetIs (w : World) (sp A : Option Addr) (C : Nat) (zs : List Int) : Prop :=
  (zs = [] ∧ sp = none) ∨ (zs ≠ [] ∧ ∃ sb, sp = some ⟨sb, 0, none⟩ ∧ w.heap[sb]? = some (.cells #[.slice A zs.length C] 50 (0, 0)))

/-- The rules at block r, their threads in block hb: the first k threads' sets are laid. -/
structure HeldTo (w : World) (r hb n : Nat) (A : Nat → Option Addr) (C : Nat → Nat) (Z : List (List Int)) (k : Nat) : Prop where
  str : w.heap[r]? = some (.cells #[.slice (some ⟨hb, 0, none⟩) n n, .slice none 0 0] 46 (0, 0))
  row : ∃ cur : Array Value, w.heap[hb]? = some (.cells cur 48 (0, 0)) ∧ cur.size = n * 4 ∧
    ∀ j, j < n → ∃ sp, cur[j * 4 + 1]? = some (.pointer sp) ∧ (k ≤ j → sp = none) ∧ (j < k → SetIs w sp (A j) (C j) (Z.getD j []))

theorem SetIs.moved {w w' : World} {sp A : Option Addr} {C : Nat} {zs : List Int} (h : SetIs w sp A C zs) (hk : ∀ (b : Nat) (cs : Array Value), w.heap[b]? = some (.cells cs 50 (0, 0)) → w'.heap[b]? = w.heap[b]?) : SetIs w' sp A C zs := by
  rcases h with h | ⟨h1, sb, h2, h3⟩
  · exact .inl h
  · exact .inr ⟨h1, sb, h2, (hk sb _ h3).trans h3⟩
theorem HeldTo.moved {w w' : World} {r hb n : Nat} {A : Nat → Option Addr} {C : Nat → Nat} {Z : List (List Int)} {k : Nat} (h : HeldTo w r hb n A C Z k)
    (hk : ∀ (b : Nat) (cs : Array Value) (t : TypeId), t ≠ 3 → w.heap[b]? = some (.cells cs t (0, 0)) → w'.heap[b]? = w.heap[b]?) : HeldTo w' r hb n A C Z k := by
  obtain ⟨cur, hc, hs, hr⟩ := h.row
  refine ⟨(hk r _ 46 (by decide) h.str).trans h.str, cur, (hk hb _ 48 (by decide) hc).trans hc, hs, fun j hj => ?_⟩
  obtain ⟨sp, h1, h2, h3⟩ := hr j hj
  exact ⟨sp, h1, h2, fun hj => (h3 hj).moved (fun b cs hb => hk b cs 50 (by decide) hb)⟩
theorem HeldTo.later {w w' : World} {r hb n : Nat} {A : Nat → Option Addr} {C : Nat → Nat} {Z : List (List Int)} {k : Nat} (h : HeldTo w r hb n A C Z k) (hb' : Below w.heap.size w w') : HeldTo w' r hb n A C Z k :=
  h.moved fun b _ _ _ hb => hb'.block b (Array.getElem?_eq_some_iff.1 hb).1
/-- A write into a row of ints, or new blocks. -/
theorem HeldTo.grown {w w' : World} {r hb n : Nat} {A : Nat → Option Addr} {C : Nat → Nat} {Z : List (List Int)} {k : Nat} (h : HeldTo w r hb n A C Z k) {row : Option Nat} (hg : w.grownBy w' row) (hrow : ∀ g, row = some g → ∃ cur, w.heap[g]? = some (.cells cur 3 (0, 0))) : HeldTo w' r hb n A C Z k :=
  h.moved fun b cs t ht hb => hg.block b (Array.getElem?_eq_some_iff.1 hb).1 (fun e => by
    obtain ⟨cur, hc⟩ := hrow b e.symm
    rw [hb] at hc
    simp only [Option.some.injEq, Obj.cells.injEq] at hc
    exact ht hc.2.1)

theorem HeldTo.c0 {w : World} {r hb n : Nat} {A : Nat → Option Addr} {C : Nat → Nat} {Z : List (List Int)} {k : Nat} (h : HeldTo w r hb n A C Z k) : w.cell? ⟨r, 0, none⟩ = some (.slice (some ⟨hb, 0, none⟩) n n) := by
  rw [cell_of_row w r 0 _ 46 (0, 0) h.str]; rfl
theorem HeldTo.cell {w : World} {r hb n : Nat} {A : Nat → Option Addr} {C : Nat → Nat} {Z : List (List Int)} {k : Nat} (h : HeldTo w r hb n A C Z k) {t : Nat} (ht : t < n) :
    ∃ sp, w.cell? ⟨hb, t * 4 + 1, none⟩ = some (.pointer sp) ∧ w.frozen? ⟨hb, t * 4 + 1, none⟩ = false ∧ (t < k → SetIs w sp (A t) (C t) (Z.getD t [])) := by
  obtain ⟨cur, hc, hs, hr⟩ := h.row
  obtain ⟨sp, h1, h2, h3⟩ := hr t ht
  exact ⟨sp, by rw [cell_of_row w hb _ cur 48 (0, 0) hc, h1], frozen_of_row w hb _ cur 48 hc, h3⟩
theorem HeldTo.skip {w : World} {r hb n : Nat} {A : Nat → Option Addr} {C : Nat → Nat} {Z : List (List Int)} {k : Nat} (h : HeldTo w r hb n A C Z k) (hz : Z.getD k [] = []) : HeldTo w r hb n A C Z (k + 1) := by
  obtain ⟨cur, hc, hs, hr⟩ := h.row
  refine ⟨h.str, cur, hc, hs, fun j hj => ?_⟩
  obtain ⟨sp, h1, h2, h3⟩ := hr j hj
  refine ⟨sp, h1, fun hk => h2 (by omega), fun hk => ?_⟩
  by_cases e : j = k
  · subst e; exact .inl ⟨hz, h2 (Nat.le_refl _)⟩
  · exact h3 (by omega)
theorem HeldTo.set {w : World} {r hb n : Nat} {A : Nat → Option Addr} {C : Nat → Nat} {Z : List (List Int)} {k : Nat} (h : HeldTo w r hb n A C Z k) (hk : k < n) (hz : Z.getD k [] ≠ []) :
    HeldTo ((w.alloc (.cells #[.slice (A k) (Z.getD k []).length (C k)] 50)).setCell ⟨hb, k * 4 + 1, none⟩ (.pointer (some ⟨w.heap.size, 0, none⟩))) r hb n A C Z (k + 1) := by
  have ha := h.later ((Below.refl _ w).alloc (Nat.le_refl _) (.cells #[.slice (A k) (Z.getD k []).length (C k)] 50))
  obtain ⟨cur, hc, hs, hr⟩ := ha.row
  have hne : r ≠ hb := by
    intro e
    have := ha.str
    rw [e, hc] at this
    simp at this
  have hnew : (w.alloc (.cells #[.slice (A k) (Z.getD k []).length (C k)] 50)).heap[w.heap.size]? = some (.cells #[.slice (A k) (Z.getD k []).length (C k)] 50 (0, 0)) := by
    show (w.heap.push _)[w.heap.size]? = _
    simp
  have hoth : ∀ (b : Nat) (cs : Array Value), (w.alloc (.cells #[.slice (A k) (Z.getD k []).length (C k)] 50)).heap[b]? = some (.cells cs 50 (0, 0)) → ((w.alloc (.cells #[.slice (A k) (Z.getD k []).length (C k)] 50)).setCell ⟨hb, k * 4 + 1, none⟩ (.pointer (some ⟨w.heap.size, 0, none⟩))).heap[b]? = (w.alloc (.cells #[.slice (A k) (Z.getD k []).length (C k)] 50)).heap[b]? := fun b cs hbk =>
    Below.heap_setCell _ _ _ _ (fun e => by
      have e' : b = hb := e
      rw [e', hc] at hbk
      simp at hbk)
  refine ⟨(Below.heap_setCell _ _ _ _ hne).trans ha.str, cur.setIfInBounds (k * 4 + 1) (.pointer (some ⟨w.heap.size, 0, none⟩)), heap_setCell_same _ hb (k * 4 + 1) cur 48 _ hc, by simpa using hs, fun j hj => ?_⟩
  obtain ⟨sp, h1, h2, h3⟩ := hr j hj
  by_cases e : j = k
  · subst e
    refine ⟨some ⟨w.heap.size, 0, none⟩, by rw [Array.getElem?_setIfInBounds_self_of_lt (by omega)], fun hk => absurd hk (by omega), fun _ => .inr ⟨hz, _, rfl, (hoth _ _ hnew).trans hnew⟩⟩
  · refine ⟨sp, by rw [Array.getElem?_setIfInBounds_ne (by omega)]; exact h1, fun hk => h2 (by omega), fun hk => (h3 (by omega)).moved hoth⟩

set_option maxHeartbeats 400000 in
theorem newRules_any (n : Nat) (A : Nat → Option Addr) (C : Nat → Nat) (Z : List (List Int)) (w : World) (hn : n ≤ 1048576) :
    Calls Try.prog 11 #[.int .i64 n] w fun e w' => ∃ r hb, e = .returned (.pointer (some ⟨r, 0, none⟩)) ∧ HeldTo w' r hb n A C Z 0 ∧ w.heap.size ≤ hb ∧ Below w.heap.size w w' := by
  obtain ⟨i, hi, hz0, hz1, hz2⟩ := info_parts Try.info48
  go_enter Try.func11, Try.ntmps11
  go_wp2_with (at_make; refine wpList_make_full _ rfl _ _ 43 rfl w.heap.size 48 i _ 4 Try.underlying43 hi hz0 hz1 _ _ _ _ n rfl rfl rfl rfl (by rw [hz2]; omega) (by unfold maxLen; omega) (Nat.le_refl _) ?_; intro w1 hown hgr)
  go_ret
  refine ⟨w1.heap.size, w.heap.size, rfl, ⟨?_, ?_⟩, Nat.le_refl _, ((Below.refl _ _).grown hgr (Nat.le_refl _) (fun k hk => by cases hk)).alloc hgr.size _⟩
  · show (w1.heap.push _)[w1.heap.size]? = _
    simp
  · rcases hown.2 with ⟨h', _⟩ | ⟨g', cap', cur, h', _, hg, _, _, hsz, htake⟩
    · simp at h'
    · simp only [Value.slice.injEq, Option.some.injEq, Addr.mk.injEq, and_true, true_and] at h'
      obtain ⟨rfl, rfl⟩ := h'
      have hlt : w.heap.size < w1.heap.size := (Array.getElem?_eq_some_iff.1 hg).1
      refine ⟨cur, by rw [Below.heap_alloc _ _ _ hlt]; exact hg, hsz, fun j hj => ⟨none, ?_, fun _ => rfl, fun h => absurd h (by omega)⟩⟩
      have e1 : cur.toList = (madeCells (Value.agg #[.slice none 0 0, .pointer none, .slice none 0 0, .slice none 0 0]).cells (n * 4)).toList := by
        rw [← htake, List.take_of_length_le (by simp; omega)]
      have e2 : cur = madeCells (Value.agg #[.slice none 0 0, .pointer none, .slice none 0 0, .slice none 0 0]).cells (n * 4) := Array.toList_inj.1 e1
      rw [e2]
      have h4 : (j * 4 + 1) % 4 = 1 := by omega
      simp [madeCells, Value.cells, show j * 4 + 1 < n * 4 from by omega, h4]

end Go.Proofs.Qxb6605816a
