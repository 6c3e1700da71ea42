/-
  What the two laws over AppendHeld share: the buffer with room; AppendHeld onto it, said of its elements.
-/
import Derived.Test.Qxb6605816aAppend
import Derived.Test.Qxb6605816aLock
import Derived.Test.Qxb6605816aRoom
namespace Go.Proofs.Qxb6605816a
open Go.RowKit

theorem own_later {w w' : World} {B B' e size n : Nat} {v : Value} {xs : List Value} (h : w.ownsRow B e size v n xs) (hb : Below B' w w') (hv : ∀ g, v.ownBlock = some g → g < B') : w'.ownsRow B e size v n xs := by
  refine ⟨h.1, ?_⟩
  rcases h.2 with h' | ⟨g, cap, cur, rfl, hB, hg, r⟩
  · exact .inl h'
  · exact .inr ⟨g, cap, cur, rfl, hB, (hb.block g (hv g rfl)).trans hg, r⟩

theorem own_cur {w : World} {B g n cap : Nat} {xs : List Value} (h : w.ownsRow B 3 1 (.slice (some ⟨g, 0, none⟩) n cap) n xs) : ∃ cur, w.heap[g]? = some (.cells cur 3 (0, 0)) := by
  rcases h.2 with ⟨h', _⟩ | ⟨g', cap', cur, h', _, hg, _⟩
  · simp at h'
  · simp only [Value.slice.injEq, Option.some.injEq, Addr.mk.injEq, and_true, true_and] at h'
    obtain ⟨rfl, rfl⟩ := h'
    exact ⟨cur, hg⟩

theorem Copied.ints {w w' : World} {A : Option Addr} {zs : List Int} {e : Ending} (h : Copied w w' A zs e) :
    ∃ A' C', e = .returned (.slice A' zs.length C') ∧ IntsAt w' A' zs ∧ Below w.heap.size w w' := by
  rcases h with ⟨_, rfl, he, rfl⟩ | ⟨he, ho, hb⟩
  · exact ⟨none, 0, he, .inl rfl, Below.refl _ _⟩
  · exact ⟨_, _, he, .inr ⟨_, _, rfl, lie_own ho⟩, hb⟩

theorem getD_left (xs ys : List Int) (k : Nat) (h : k < xs.length) : (xs ++ ys).getD k 0 = xs.getD k 0 := by
  simp [List.getD, List.getElem?_append_left h]
theorem getD_right (xs ys : List Int) (n k : Nat) (h : xs.length = n) : (xs ++ ys).getD (n + k) 0 = ys.getD k 0 := by
  subst h
  simp [List.getD, List.getElem?_append_right]
theorem ne_nil_of_lt {xs : List Int} {k n : Nat} (h : xs.length = n) (hk : k < n) : xs ≠ [] := by
  intro e; subst e; simp at h; omega

/-- The buffer: nil for nil, else a row of its own (block g) with cap places that holds lz. -/
def Buf (w : World) (g : Nat) (p : Option Addr) (cap : Nat) (lz : List Int) : Prop :=
  (p = none ∧ cap = 0 ∧ lz = []) ∨ (p = some ⟨g, 0, none⟩ ∧ w.ownsRow g 3 1 (.slice (some ⟨g, 0, none⟩) lz.length cap) lz.length (lz.map (Value.int .i64)))

theorem Buf.later {w w' : World} {g : Nat} {p : Option Addr} {cap : Nat} {lz : List Int} (h : Buf w g p cap lz) (hb : Below w.heap.size w w') : Buf w' g p cap lz := by
  rcases h with h | ⟨h1, h2⟩
  · exact .inl h
  · exact .inr ⟨h1, own_later h2 hb (fun k hk => (h2.lt k hk).2)⟩
theorem Buf.ints {w : World} {g : Nat} {p : Option Addr} {cap : Nat} {lz : List Int} (h : Buf w g p cap lz) : IntsAt w p lz := by
  rcases h with ⟨_, _, h⟩ | ⟨h1, h2⟩
  · exact .inl h
  · exact .inr ⟨g, 0, h1, lie_own h2⟩

/-- zzCloneRoom, every buffer. -/
theorem room_any (A : Option Addr) (c : Nat) (lz : List Int) (x : Int) (w : World) (hn : lz.length ≤ 1048576) (h0 : 0 ≤ x) (h1 : x ≤ 4194304) (hC : A = none → c = 0) (H : IntsAt w A lz) :
    Calls Try.prog 10 #[.slice A lz.length c, .int .i64 x] w fun e w' => ∃ p cap, e = .returned (.slice p lz.length cap) ∧ Buf w' w.heap.size p cap lz ∧ (p = none ∨ cap = lz.length + x.toNat) ∧ Below w.heap.size w w' := by
  rcases H with rfl | ⟨b, off, rfl, H⟩
  · cases A with
    | none =>
      obtain rfl := hC rfl
      exact (room_nil x w).mono fun e w' ⟨he, hw⟩ => ⟨none, 0, he, .inl ⟨rfl, rfl, rfl⟩, .inl rfl, hw ▸ Below.refl _ _⟩
    | some a => exact (room_empty a c x w h0 h1).mono fun e w' ⟨he, ho, hb⟩ => ⟨_, _, he, .inr ⟨rfl, ho⟩, .inr (by simp), hb⟩
  · exact (room_some b off c lz x w hn h0 h1 H).mono fun e w' ⟨he, ho, hb⟩ => ⟨_, _, he, .inr ⟨rfl, ho⟩, .inr rfl, hb⟩

theorem lie_append_left {w : World} {b off : Nat} {xs ys : List Int} (h : Lie w b off (xs ++ ys)) : Lie w b off xs :=
  ⟨h.1, fun j hj => by
    have := h.2 j (by simp; omega)
    rw [this]
    simp [List.getD, List.getElem?_append_left hj]⟩

/-- AppendHeld onto such a buffer: the buffer's elements and then the thread's set; the buffer itself reads as before; below the buffer's block nothing has turned. -/
theorem held_buf (r hb n t g cap : Nat) (p : Option Addr) (A : Nat → Option Addr) (C : Nat → Nat) (Z : List (List Int)) (lz : List Int) (w : World) (ht : t < n) (H : HeldTo w r hb n A C Z n) (hI : IntsAt w (A t) (Z.getD t [])) (hm : (Z.getD t []).length ≤ 32) (hC : (Z.getD t []).length ≤ C t)
    (hB : Buf w g p cap lz) (hcap : p = none ∨ lz.length + (Z.getD t []).length ≤ cap) (hl : lz.length ≤ 1073741824) (hgw : g ≤ w.heap.size) :
    Calls Try.prog 14 #[.pointer (some ⟨r, 0, none⟩), .slice p lz.length cap, .int .i64 t] w fun e w' =>
      ∃ p' cap', e = .returned (.slice p' (lz.length + (Z.getD t []).length) cap') ∧ IntsAt w' p' (lz ++ Z.getD t []) ∧ IntsAt w' p lz ∧ Below g w w' := by
  rcases hB with ⟨rfl, rfl, rfl⟩ | ⟨rfl, ho⟩
  · refine (held_own r hb n t 0 w.heap.size (.slice none 0 0) A C Z [] w ht H hI hm hC ⟨none, 0, rfl⟩ (World.ownsRow_nil _ _ _ _) (by omega) (Nat.le_refl _)).mono ?_
    rintro e w' ⟨p', cap', he, ho', hg⟩
    refine ⟨p', cap', he, ?_, .inl rfl, ⟨hg.os, hg.tape, hg.output, hg.size, fun k hk => hg.block k (by omega) (by simp [Value.ownBlock])⟩⟩
    rw [List.nil_append]
    by_cases hz : Z.getD t [] = []
    · exact .inl hz
    · obtain ⟨g', cap2, he2, hbg, hlt⟩ := ho'.form (by have := List.length_pos_iff.2 hz; omega)
      simp only [Value.slice.injEq] at he2
      obtain ⟨rfl, _, rfl⟩ := he2
      refine .inr ⟨g', 0, rfl, ?_⟩
      have h2 : w'.ownsRow w.heap.size 3 1 (.slice (some ⟨g', 0, none⟩) (0 + (Z.getD t []).length) cap') (0 + (Z.getD t []).length) ((Z.getD t []).map (Value.int .i64)) := by simpa using ho'
      exact lie_own h2
  · refine (held_fits r hb n t g lz.length cap g A C Z _ w ht H hI hm hC ho (by rcases hcap with h | h; cases h; exact h)).mono ?_
    rintro e w' ⟨he, ho', hg⟩
    have hL : Lie w' g 0 (lz ++ Z.getD t []) := by
      rw [← List.map_append] at ho'
      exact lie_own ho'
    exact ⟨_, _, he, .inr ⟨g, 0, rfl, hL⟩, .inr ⟨g, 0, rfl, lie_append_left hL⟩, ⟨hg.os, hg.tape, hg.output, hg.size, fun k hk => hg.block k (by omega) (by simp; omega)⟩⟩

end Go.Proofs.Qxb6605816a
