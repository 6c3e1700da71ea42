/-
  (*rules).AppendHeld (14).
-/
import Derived.Test.Qxb6605816aRules
namespace Go.Proofs.Qxb6605816a
open Go.RowKit

set_option maxHeartbeats 400000 in
theorem held_over (r hb n t : Nat) (sp : Option Addr) (v : Value) (w : World) (Q : Value → World → Prop) (ht : t < n) (h0 : w.cell? ⟨r, 0, none⟩ = some (.slice (some ⟨hb, 0, none⟩) n n))
    (h1 : w.cell? ⟨hb, t * 4 + 1, none⟩ = some (.pointer sp))
    (hR : Calls Try.prog 21 #[.pointer sp, v, .int .i64 0] w fun e w' => ∃ u, e = .returned u ∧ Q u w') :
    Calls Try.prog 14 #[.pointer (some ⟨r, 0, none⟩), v, .int .i64 t] w fun e w' => ∃ u, e = .returned u ∧ Q u w' := by
  have k1 : (t : Int) < (n : Int) := by omega
  have HR := hide' hR
  clear hR
  go_enter Try.func14, Try.ntmps14
  go_wp2_with (go_at_call 21; refine HR.out.mono ?_; rintro e w2 ⟨u, rfl, hQ⟩)
  go_ret
  exact ⟨u, rfl, hQ⟩

theorem ints_some {w : World} {A : Option Addr} {zs : List Int} (h : IntsAt w A zs) (hz : zs ≠ []) : ∃ b off, A = some ⟨b, off, none⟩ ∧ Lie w b off zs := by
  rcases h with h | h
  · exact absurd h hz
  · exact h

/-- The set fits behind the buffer's length. -/
theorem held_fits (r hb n t gl k cap base : Nat) (A : Nat → Option Addr) (C : Nat → Nat) (Z : List (List Int)) (xs : List Value) (w : World) (ht : t < n) (H : HeldTo w r hb n A C Z n) (hI : IntsAt w (A t) (Z.getD t [])) (hm : (Z.getD t []).length ≤ 32) (hC : (Z.getD t []).length ≤ C t)
    (hown : w.ownsRow base 3 1 (.slice (some ⟨gl, 0, none⟩) k cap) k xs) (hfit : k + (Z.getD t []).length ≤ cap) :
    Calls Try.prog 14 #[.pointer (some ⟨r, 0, none⟩), .slice (some ⟨gl, 0, none⟩) k cap, .int .i64 t] w fun e w' =>
      e = .returned (.slice (some ⟨gl, 0, none⟩) (k + (Z.getD t []).length) cap) ∧ w'.ownsRow base 3 1 (.slice (some ⟨gl, 0, none⟩) (k + (Z.getD t []).length) cap) (k + (Z.getD t []).length) (xs ++ (Z.getD t []).map (Value.int .i64)) ∧ w.grownBy w' (some gl) := by
  obtain ⟨sp, h1, _, h3⟩ := H.cell ht
  have hS := h3 ht
  refine (held_over r hb n t sp _ w (fun u w' => u = .slice (some ⟨gl, 0, none⟩) (k + (Z.getD t []).length) cap ∧ w'.ownsRow base 3 1 (.slice (some ⟨gl, 0, none⟩) (k + (Z.getD t []).length) cap) (k + (Z.getD t []).length) (xs ++ (Z.getD t []).map (Value.int .i64)) ∧ w.grownBy w' (some gl)) ht H.c0 h1 ?_).mono ?_
  · rcases hS with ⟨hz, rfl⟩ | ⟨hz, sb, rfl, hs⟩
    · refine (locks_nil _ k base xs w hown).mono fun e w' ⟨he, hw⟩ => ⟨_, he, ?_⟩
      subst hw
      rw [hz]
      exact ⟨rfl, by simpa using hown, World.grownBy.refl _ _⟩
    · have hc : w.cell? ⟨sb, 0, none⟩ = some (.slice (A t) (Z.getD t []).length (C t)) := by rw [cell_of_row w sb 0 _ 50 (0, 0) hs]; rfl
      refine locks_some sb _ (C t) (A t) _ w _ hm hc ?_
      exact (range_fits sb _ (C t) (A t) gl k cap base xs (Z.getD t []) w hm rfl hC hc (ints_some hI hz) hown hfit).mono fun e w' ⟨he, h⟩ => ⟨_, he, rfl, h⟩
  · rintro e w' ⟨u, rfl, rfl, h⟩
    exact ⟨rfl, h⟩

/-- Onto nil, or onto a row of the call's own that may grow. -/
theorem held_own (r hb n t k base : Nat) (v : Value) (A : Nat → Option Addr) (C : Nat → Nat) (Z : List (List Int)) (xs : List Value) (w : World) (ht : t < n) (H : HeldTo w r hb n A C Z n) (hI : IntsAt w (A t) (Z.getD t [])) (hm : (Z.getD t []).length ≤ 32) (hC : (Z.getD t []).length ≤ C t)
    (hv : ∃ p cap, v = .slice p k cap) (hown : w.ownsRow base 3 1 v k xs) (hk : k ≤ 1073741824) (hbase : base ≤ w.heap.size) :
    Calls Try.prog 14 #[.pointer (some ⟨r, 0, none⟩), v, .int .i64 t] w fun e w' =>
      ∃ p cap, e = .returned (.slice p (k + (Z.getD t []).length) cap) ∧ w'.ownsRow base 3 1 (.slice p (k + (Z.getD t []).length) cap) (k + (Z.getD t []).length) (xs ++ (Z.getD t []).map (Value.int .i64)) ∧ w.grownBy w' v.ownBlock := by
  obtain ⟨sp, h1, _, h3⟩ := H.cell ht
  have hS := h3 ht
  refine (held_over r hb n t sp _ w (fun u w' => ∃ p cap, u = .slice p (k + (Z.getD t []).length) cap ∧ w'.ownsRow base 3 1 (.slice p (k + (Z.getD t []).length) cap) (k + (Z.getD t []).length) (xs ++ (Z.getD t []).map (Value.int .i64)) ∧ w.grownBy w' v.ownBlock) ht H.c0 h1 ?_).mono ?_
  · rcases hS with ⟨hz, rfl⟩ | ⟨hz, sb, rfl, hs⟩
    · refine (locks_nil _ k base xs w hown).mono fun e w' ⟨he, hw⟩ => ⟨_, he, ?_⟩
      subst hw
      obtain ⟨p, cap, rfl⟩ := hv
      rw [hz]
      exact ⟨p, cap, rfl, by simpa using hown, World.grownBy.refl _ _⟩
    · have hc : w.cell? ⟨sb, 0, none⟩ = some (.slice (A t) (Z.getD t []).length (C t)) := by rw [cell_of_row w sb 0 _ 50 (0, 0) hs]; rfl
      refine locks_some sb _ (C t) (A t) _ w _ hm hc ?_
      exact (range_lies sb _ (C t) (A t) v k base xs (Z.getD t []) w hm (List.length_pos_iff.2 hz) rfl hC hc (ints_some hI hz) hown hk hbase).mono fun e w' ⟨g, cap, he, h⟩ => ⟨_, he, _, cap, rfl, h⟩
  · rintro e w' ⟨u, rfl, p, cap, rfl, h⟩
    exact ⟨p, cap, rfl, h⟩

end Go.Proofs.Qxb6605816a
