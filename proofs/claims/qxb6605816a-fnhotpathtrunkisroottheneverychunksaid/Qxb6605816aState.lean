/-
  What the law's own loop keeps: the path spells TP, 'want' holds TW, the copied chunks lie below.
-/
import Derived.Test.Qxb6605816aTrunk
import Derived.Test.Qxb6605816aFields
import Derived.Deep.AppendLies
namespace Go.Proofs.Qxb6605816a
open Go.RowKit

structure St (w1 : World) (hp : Nat) (TP TW : List Int) (wb cap : Nat) (wr : World) : Prop where
  path : ∃ g M f, Path wr hp g M f (f + TP.length) TP ∧ w1.heap.size ≤ g ∧ wb ≠ g
  own : wr.ownsRow w1.heap.size 3 1 (.slice (some ⟨wb, 0, none⟩) TW.length cap) TW.length (TW.map (Value.int .i64))
  below : Below w1.heap.size w1 wr
  hp : w1.heap.size ≤ hp

theorem own_heap {w : World} {B g n cap : Nat} {xs : List Value} (h : w.ownsRow B 3 1 (.slice (some ⟨g, 0, none⟩) n cap) n xs) : ∃ cur, w.heap[g]? = some (.cells cur 3 (0, 0)) := by
  rcases h.2 with ⟨h', _⟩ | ⟨g', cap', cur, h', _, hg, _⟩
  · simp at h'
  · simp only [Value.slice.injEq, Option.some.injEq, Addr.mk.injEq, and_true, true_and] at h'
    obtain ⟨rfl, rfl⟩ := h'
    exact ⟨cur, hg⟩
theorem own_moved {w w' : World} {B g n cap : Nat} {xs : List Value} (h : w.ownsRow B 3 1 (.slice (some ⟨g, 0, none⟩) n cap) n xs) (he : w'.heap[g]? = w.heap[g]?) : w'.ownsRow B 3 1 (.slice (some ⟨g, 0, none⟩) n cap) n xs := by
  refine ⟨h.1, ?_⟩
  rcases h.2 with h' | ⟨g', cap', cur, h', hb, hg, r⟩
  · exact .inl h'
  · have e := h'
    simp only [Value.slice.injEq, Option.some.injEq, Addr.mk.injEq, and_true, true_and] at e
    obtain ⟨rfl, rfl⟩ := e
    exact .inr ⟨g, cap, cur, rfl, hb, he.trans hg, r⟩

theorem St.wne {w1 : World} {hp wb cap : Nat} {TP TW : List Int} {wr : World} (h : St w1 hp TP TW wb cap wr) : wb ≠ hp := by
  obtain ⟨g, M, f, P, _, _⟩ := h.path
  obtain ⟨cur, hc⟩ := own_heap h.own
  intro e
  rw [e, P.str] at hc
  simp at hc
theorem St.wlt {w1 : World} {hp wb cap : Nat} {TP TW : List Int} {wr : World} (h : St w1 hp TP TW wb cap wr) : wb < wr.heap.size := (h.own.lt wb rfl).2
theorem St.lie {w1 : World} {hp wb cap : Nat} {TP TW : List Int} {wr : World} (h : St w1 hp TP TW wb cap wr) : Lie wr wb 0 TW := lie_own h.own

theorem Path.moved {w w' : World} {hp g M f e : Nat} {T : List Int} (h : Path w hp g M f e T) (h1 : w'.heap[hp]? = w.heap[hp]?) (h2 : w'.heap[g]? = w.heap[g]?) : Path w' hp g M f e T := by
  obtain ⟨cur, hc, r⟩ := h.row
  exact ⟨h1.trans h.str, ⟨cur, h2.trans hc, r⟩, h.fe, h.eM, h.big⟩

theorem St.trunk {w1 : World} {hp wb cap : Nat} {TP TW zs : List Int} {wr w3 : World} (h : St w1 hp TP TW wb cap wr) {g L : Nat} (hg : w1.heap.size ≤ g) (hne : wb ≠ g) (hL : L = (TP ++ zs).length) (hT : Trunked wr w3 hp g L (TP ++ zs)) :
    St w1 hp (TP ++ zs) TW wb cap w3 := by
  obtain ⟨ho, ht, hou, hs, hbl, g', M', f', hP, hg'⟩ := hT
  have hwl := h.wlt
  have hhp := h.hp
  subst hL
  refine ⟨⟨g', M', f', hP, ?_, ?_⟩, own_moved h.own (hbl wb hwl h.wne hne), ?_, h.hp⟩
  · rcases hg' with rfl | hg'
    · exact hg
    · exact Nat.le_trans h.below.size hg'
  · rcases hg' with rfl | hg'
    · exact hne
    · omega
  · exact h.below.trans ⟨ho, ht, hou, hs, fun k hk => hbl k (Nat.lt_of_lt_of_le hk h.below.size) (by omega) (by omega)⟩

theorem St.push {w1 : World} {hp wb cap : Nat} {TP TW : List Int} {wr w' : World} {z : Int} (h : St w1 hp TP TW wb cap wr) {g' cap' : Nat}
    (hown : w'.ownsRow w1.heap.size 3 1 (.slice (some ⟨g', 0, none⟩) (TW.length + 1) cap') (TW.length + 1) (TW.map (Value.int .i64) ++ [Value.int .i64 z]))
    (hgr : (wr.alloc (.cells #[.int .i64 z] 3)).grownBy w' (some wb)) (hat : some wb = some g' ∨ g' = wr.heap.size + 1) : St w1 hp TP (TW ++ [z]) g' cap' w' := by
  have hwl := h.wlt
  have hwne := h.wne
  obtain ⟨g, M, f, P, hg, hne⟩ := h.path
  have hkeep : ∀ k, k < wr.heap.size → k ≠ wb → w'.heap[k]? = wr.heap[k]? := fun k hk hkw => by
    rw [hgr.block k (by simp; omega) (by simpa using hkw), Below.heap_alloc _ _ _ hk]
  refine ⟨⟨g, M, f, P.moved (hkeep hp P.lt hwne.symm) (hkeep g P.glt hne.symm), hg, ?_⟩, ?_, ?_, h.hp⟩
  · rcases hat with e | e
    · cases e; exact hne
    · have := P.glt; omega
  · rw [List.map_append, List.length_append]; exact hown
  · have hwb : w1.heap.size ≤ wb := (h.own.lt wb rfl).1
    have hs : wr.heap.size + 1 ≤ w'.heap.size := by have := hgr.size; simpa using this
    exact h.below.trans ⟨hgr.os, hgr.tape, hgr.output, by omega, fun k hk => hkeep k (Nat.lt_of_lt_of_le hk h.below.size) (by omega)⟩

theorem St.drewN {w1 : World} {hp wb cap : Nat} {TP TW : List Int} {wr : World} (h : St w1 hp TP TW wb cap wr) (q : Nat) : St w1 hp TP TW wb cap (wr.drewN q) := by
  obtain ⟨g, M, f, P, hg, hne⟩ := h.path
  exact ⟨⟨g, M, f, P.moved rfl rfl, hg, hne⟩, own_moved h.own rfl, ⟨h.below.os, h.below.tape, h.below.output, h.below.size, h.below.block⟩, h.hp⟩

/-- The start: a new path, 'want' made and given the root. -/
theorem st_start {w1 w2 w3 w4 : World} (hs : w2.heap[w1.heap.size + 2]? = some (.cells (pathCells (w1.heap.size + 1) 1 0 1) 52 (0, 0))) (hr : w2.heap[w1.heap.size + 1]? = some (.cells #[.int .i64 0] 3 (0, 0))) (hb : Below w1.heap.size w1 w2)
    (hgr3 : w2.grownBy w3 none) (hown4 : w4.ownsRow w1.heap.size 3 1 (.slice (some ⟨w2.heap.size, 0, none⟩) 1 1) 1 [Value.int .i64 0]) (hgr4 : (w3.alloc (.cells #[.int .i64 0] 3)).grownBy w4 (some w2.heap.size)) :
    St w1 (w1.heap.size + 2) [0] [0] w2.heap.size 1 w4 := by
  have h2 : w1.heap.size + 2 < w2.heap.size := (Array.getElem?_eq_some_iff.1 hs).1
  have hkeep : ∀ k, k < w2.heap.size → w4.heap[k]? = w2.heap[k]? := fun k hk => by
    rw [hgr4.block k (by have := hgr3.size; simp; omega) (by simp; omega), Below.heap_alloc _ _ _ (by have := hgr3.size; omega), hgr3.block k hk (by simp)]
  have hP : Path w4 (w1.heap.size + 2) (w1.heap.size + 1) 1 0 1 [0] :=
    ⟨(hkeep _ h2).trans hs, ⟨[0], (hkeep _ (by omega)).trans hr, rfl, rfl⟩, by omega, by omega, by omega⟩
  refine ⟨⟨w1.heap.size + 1, 1, 0, hP, by omega, by omega⟩, hown4, ?_, by omega⟩
  have hs3 := hgr3.size
  have hs4 := hgr4.size
  simp at hs4
  exact ⟨hgr4.os.trans (hgr3.os.trans hb.os), hgr4.tape.trans (hgr3.tape.trans hb.tape), hgr4.output.trans (hgr3.output.trans hb.output), by omega, fun k hk => (hkeep k (by omega)).trans (hb.block k hk)⟩

theorem St.own' {w1 : World} {hp wb cap n : Nat} {TP TW : List Int} {wr : World} (h : St w1 hp TP TW wb cap wr) (hn : TW.length = n) : wr.ownsRow w1.heap.size 3 1 (.slice (some ⟨wb, 0, none⟩) n cap) n (TW.map (Value.int .i64)) := by
  subst hn; exact h.own
theorem St.push' {w1 : World} {hp wb cap n : Nat} {TP TW : List Int} {wr w' : World} {z : Int} {xs : List Value} (h : St w1 hp TP TW wb cap wr) (hn : TW.length = n) (hxs : Hid (xs = TW.map (Value.int .i64))) {g' cap' : Nat}
    (hown : w'.ownsRow w1.heap.size 3 1 (.slice (some ⟨g', 0, none⟩) (n + 1) cap') (n + 1) (xs ++ [Value.int .i64 z]))
    (hgr : (wr.alloc (.cells #[.int .i64 z] 3)).grownBy w' (some wb)) (hat : some wb = some g' ∨ g' = wr.heap.size + 1) : St w1 hp TP (TW ++ [z]) g' cap' w' := by
  subst hn
  rw [hxs.out] at hown
  exact h.push hown hgr hat
theorem St.path' {w1 : World} {hp wb cap n : Nat} {TP TW : List Int} {wr : World} (h : St w1 hp TP TW wb cap wr) (hn : TP.length = n) : ∃ g M f, Path wr hp g M f (f + n) TP ∧ w1.heap.size ≤ g ∧ wb ≠ g := by
  subst hn; exact h.path
theorem take_snoc_int (T zs : List Int) (m : Nat) (h : m < zs.length) : T ++ zs.take m ++ [zs.getD m 0] = T ++ zs.take (m + 1) := by
  rw [List.take_succ_eq_append_getElem h, List.append_assoc, List.getD, List.getElem?_eq_getElem h]
  rfl

/-- The trunk after k chunks. -/
def trunkTo (Z : List (List Int)) (k : Nat) : List Int := 0 :: (Z.take k).flatten
theorem trunkTo_zero (Z : List (List Int)) : trunkTo Z 0 = [0] := rfl
theorem trunkTo_succ (Z : List (List Int)) (k : Nat) (h : k < Z.length) : trunkTo Z (k + 1) = trunkTo Z k ++ Z.getD k [] := by
  unfold trunkTo
  rw [List.take_succ_eq_append_getElem h, List.flatten_append, List.getD, List.getElem?_eq_getElem h]
  simp
theorem trunkTo_len (Z : List (List Int)) (k : Nat) : (trunkTo Z k).length = 1 + total (Z.take k) := by
  unfold trunkTo total
  rw [List.length_cons, List.length_flatten]; omega

end Go.Proofs.Qxb6605816a
