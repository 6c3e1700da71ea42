/-
  The chain of FnAppendHeldChainsEveryThreadInTurn (4): the sets, whatever their outer slice; the state; one step.
-/
import Derived.Test.Qxb6605816aBuf0
namespace Go.Proofs.Qxb6605816a
open Go.RowKit

/-- A slice of slices of ints at a: nothing is asked where there is no row. -/
def SetsAt (w : World) (a : Option Addr) (A : Nat → Option Addr) (C : Nat → Nat) (Z : List (List Int)) : Prop :=
  Z = [] ∨ ∃ b off, a = some ⟨b, off, none⟩ ∧ RowsAt w b off A C Z
theorem SetsAt.later {w w' : World} {a : Option Addr} {A : Nat → Option Addr} {C : Nat → Nat} {Z : List (List Int)} (h : SetsAt w a A C Z) (hb : Below w.heap.size w w') : SetsAt w' a A C Z := by
  rcases h with h | ⟨b, off, h1, h2⟩
  · exact .inl h
  · exact .inr ⟨b, off, h1, h2.later hb⟩
theorem SetsAt.some {w : World} {a : Option Addr} {A : Nat → Option Addr} {C : Nat → Nat} {Z : List (List Int)} (h : SetsAt w a A C Z) {k n : Nat} (hN : Z.length = n) (hk : k < n) : ∃ b off, a = some ⟨b, off, none⟩ ∧ RowsAt w b off A C Z := by
  rcases h with h | h
  · subst h; simp at hN; omega
  · exact h

theorem sets_any (a : Option Addr) (n c : Nat) (A : Nat → Option Addr) (C : Nat → Nat) (Z : List (List Int)) (w : World) (hn : n ≤ 1048576) (hN : Z.length = n) (hZ : ∀ j, j < n → (Z.getD j []).length ≤ 1048576) (hc : a = none → c = 0) (H : SetsAt w a A C Z) :
    Calls Try.prog 9 #[.slice a n c] w fun e w' => ∃ a' A' C', e = .returned (.slice a' n n) ∧ SetsAt w' a' A' C' Z ∧ Below w.heap.size w w' := by
  rcases H with rfl | ⟨b, off, rfl, H⟩
  · have hn0 : n = 0 := by simpa using hN.symm
    subst hn0
    cases a with
    | none =>
      obtain rfl := hc rfl
      exact (sets_nil w).mono fun e w' ⟨he, hw⟩ => ⟨none, A, C, he, .inl rfl, hw ▸ Below.refl _ _⟩
    | some a => exact (sets_empty a c w).mono fun e w' ⟨he, _, hb⟩ => ⟨_, A, C, he, .inl rfl, hb⟩
  · refine (sets_some b off n c A C Z w hn hN hZ H).mono ?_
    rintro e w' ⟨he, hcl, hb⟩
    obtain ⟨A', C', HR⟩ := hcl.rows hN
    exact ⟨_, A', C', he, .inr ⟨_, _, rfl, HR⟩, hb⟩

/-- What has been gathered after t threads. -/
def accTo (lz : List Int) (Z : List (List Int)) (t : Nat) : List Int := lz ++ (Z.take t).flatten
theorem accTo_zero (lz : List Int) (Z : List (List Int)) : accTo lz Z 0 = lz := by simp [accTo]
theorem accTo_succ (lz : List Int) (Z : List (List Int)) (t : Nat) (h : t < Z.length) : accTo lz Z (t + 1) = accTo lz Z t ++ Z.getD t [] := by
  unfold accTo
  rw [List.take_succ_eq_append_getElem h, List.flatten_append, List.getD, List.getElem?_eq_getElem h]
  simp
theorem accTo_len (lz : List Int) (Z : List (List Int)) (t : Nat) : (accTo lz Z t).length = lz.length + total (Z.take t) := by
  unfold accTo total
  rw [List.length_append, List.length_flatten]
theorem accTo_full (lz : List Int) (Z : List (List Int)) (n : Nat) (h : Z.length = n) : accTo lz Z n = lz ++ Z.flatten := by
  unfold accTo
  rw [← h, List.take_length]
theorem acc_at (lz : List Int) (Z : List (List Int)) (nl t T j : Nat) (hl : lz.length = nl) (ht : t < Z.length) (hT : total (Z.take t) = T) (hj : j < (Z.getD t []).length) : (lz ++ Z.flatten).getD (nl + T + j) 0 = (Z.getD t []).getD j 0 := by
  have e : lz ++ Z.flatten = accTo lz Z t ++ (Z.getD t [] ++ (Z.drop (t + 1)).flatten) := by
    rw [← List.append_assoc, ← accTo_succ lz Z t ht]
    unfold accTo
    rw [List.append_assoc, ← List.flatten_append, List.take_append_drop]
  have hlen := accTo_len lz Z t
  rw [hl, hT] at hlen
  rw [e, getD_right _ _ (nl + T) j hlen, getD_left _ _ j hj]

/-- After t threads: the rules stand; below the buffer's block g nothing has turned since w4; acc, a slice at p, holds the buffer and the first t sets: in a row of its own made since B, or in the buffer's own row. -/
structure Chain (w4 : World) (B g cap4 r hb n : Nat) (p4 : Option Addr) (A : Nat → Option Addr) (C : Nat → Nat) (Z : List (List Int)) (lz : List Int) (t : Nat) (p : Option Addr) (cap : Nat) (w : World) : Prop where
  held : HeldTo w r hb n A C Z n
  below : Below g w4 w
  room : B ≤ w.heap.size
  own : (p4 = none ∧ lz = [] ∧ w.ownsRow B 3 1 (.slice p (accTo lz Z t).length cap) (accTo lz Z t).length ((accTo lz Z t).map (Value.int .i64))) ∨
    (p4 = some ⟨g, 0, none⟩ ∧ p = some ⟨g, 0, none⟩ ∧ cap = cap4 ∧ w.ownsRow g 3 1 (.slice (some ⟨g, 0, none⟩) (accTo lz Z t).length cap4) (accTo lz Z t).length ((accTo lz Z t).map (Value.int .i64)))

theorem own_type {w : World} {B n : Nat} {v : Value} {xs : List Value} (h : w.ownsRow B 3 1 v n xs) : ∀ g, v.ownBlock = some g → ∃ cur, w.heap[g]? = some (.cells cur 3 (0, 0)) := by
  intro g hg
  rcases h.2 with ⟨rfl, _⟩ | ⟨g', cap, cur, rfl, _, hh, _⟩
  · simp [Value.ownBlock] at hg
  · simp [Value.ownBlock] at hg
    subst hg
    exact ⟨cur, hh⟩

theorem chain_step {w4 : World} {B cap4 r hb n : Nat} {p4 : Option Addr} {A : Nat → Option Addr} {C : Nat → Nat} {Z : List (List Int)} {lz : List Int} {t : Nat} {p : Option Addr} {cap : Nat} {w : World}
    (H : Chain w4 B w4.heap.size cap4 r hb n p4 A C Z lz t p cap w) (hN : Z.length = n) (ht : t < n) (hB : w4.heap.size ≤ B) {a : Option Addr} (hS : SetsAt w4 a A C Z) (h32 : ∀ j, j < n → (Z.getD j []).length ≤ 32) (hcap : p4 = none ∨ lz.length + total Z ≤ cap4) (hbig : lz.length + total Z ≤ 1073741824) :
    Calls Try.prog 14 #[.pointer (some ⟨r, 0, none⟩), .slice p (accTo lz Z t).length cap, .int .i64 t] w fun e w' =>
      ∃ p' cap', e = .returned (.slice p' (accTo lz Z (t + 1)).length cap') ∧ Chain w4 B w4.heap.size cap4 r hb n p4 A C Z lz (t + 1) p' cap' w' := by
  obtain ⟨b, off, _, HR⟩ := hS.some hN ht
  have hrow := (HR.later H.below).2 t (by omega)
  have hsuc := accTo_succ lz Z t (by omega)
  have hl1 := accTo_len lz Z (t + 1)
  have hl2 := total_take_le Z (t + 1)
  have hlen : (accTo lz Z (t + 1)).length = (accTo lz Z t).length + (Z.getD t []).length := by rw [hsuc, List.length_append]
  rcases H.own with ⟨h1, h2, ho⟩ | ⟨h1, rfl, rfl, ho⟩
  · refine (held_own r hb n t (accTo lz Z t).length B _ A C Z _ w ht H.held hrow.2.2 (h32 t ht) hrow.2.1.2 ⟨p, cap, rfl⟩ ho (by omega) H.room).mono ?_
    rintro e w' ⟨p', cap', he, ho', hg⟩
    rw [← hlen] at he ho'
    rw [← List.map_append, ← hsuc] at ho'
    refine ⟨p', cap', he, ⟨H.held.grown hg (own_type ho), ?_, Nat.le_trans H.room hg.size, .inl ⟨h1, h2, ho'⟩⟩⟩
    refine H.below.trans ⟨hg.os, hg.tape, hg.output, hg.size, fun k hk => hg.block k (Nat.lt_of_lt_of_le hk H.below.size) (fun e => ?_)⟩
    have := (ho.lt k e.symm).1
    omega
  · refine (held_fits r hb n t w4.heap.size (accTo lz Z t).length cap w4.heap.size A C Z _ w ht H.held hrow.2.2 (h32 t ht) hrow.2.1.2 ho (by
      rcases hcap with h | h
      · rw [h1] at h; cases h
      · omega)).mono ?_
    rintro e w' ⟨he, ho', hg⟩
    rw [← hlen] at he ho'
    rw [← List.map_append, ← hsuc] at ho'
    refine ⟨_, _, he, ⟨H.held.grown hg (own_type ho), ?_, Nat.le_trans H.room hg.size, .inr ⟨h1, rfl, rfl, ho'⟩⟩⟩
    exact H.below.trans ⟨hg.os, hg.tape, hg.output, hg.size, fun k hk => hg.block k (Nat.lt_of_lt_of_le hk H.below.size) (by simp; omega)⟩

theorem Chain.acc {w4 : World} {B g cap4 r hb n : Nat} {p4 : Option Addr} {A : Nat → Option Addr} {C : Nat → Nat} {Z : List (List Int)} {lz : List Int} {t : Nat} {p : Option Addr} {cap : Nat} {w : World}
    (H : Chain w4 B g cap4 r hb n p4 A C Z lz t p cap w) : IntsAt w p (accTo lz Z t) ∧ IntsAt w p4 lz := by
  rcases H.own with ⟨h1, h2, ho⟩ | ⟨h1, rfl, rfl, ho⟩
  · refine ⟨?_, .inl h2⟩
    by_cases hz : accTo lz Z t = []
    · exact .inl hz
    · obtain ⟨g', cap2, he2, _, _⟩ := ho.form (List.length_pos_iff.2 hz)
      simp only [Value.slice.injEq] at he2
      obtain ⟨rfl, _, rfl⟩ := he2
      exact .inr ⟨g', 0, rfl, lie_own ho⟩
  · have hL := lie_own ho
    exact ⟨.inr ⟨g, 0, rfl, hL⟩, .inr ⟨g, 0, h1, lie_append_left hL⟩⟩

/-- The start of the chain: acc is the buffer. -/
theorem chain_start {w4 w5 w : World} {cap4 r hb n : Nat} {p4 : Option Addr} {A : Nat → Option Addr} {C : Nat → Nat} {Z : List (List Int)} {lz : List Int} (hB : Buf w5 w4.heap.size p4 cap4 lz) (hb45 : Below w4.heap.size w4 w5) (hb5 : Below w5.heap.size w5 w) (hH : HeldTo w r hb n A C Z n) :
    Chain w4 w.heap.size w4.heap.size cap4 r hb n p4 A C Z lz 0 p4 cap4 w := by
  refine ⟨hH, hb45.trans (hb5.mono hb45.size), Nat.le_refl _, ?_⟩
  rw [accTo_zero]
  rcases hB.later hb5 with ⟨rfl, rfl, rfl⟩ | ⟨h1, h2⟩
  · exact .inl ⟨rfl, rfl, World.ownsRow_nil _ _ _ _⟩
  · exact .inr ⟨h1, h1, rfl, h2⟩

end Go.Proofs.Qxb6605816a
