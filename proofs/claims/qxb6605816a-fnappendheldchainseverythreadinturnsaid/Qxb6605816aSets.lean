/-
  zzCloneSets (9).
-/
import Derived.Test.Qxb6605816aClone
namespace Go.Proofs.Qxb6605816a
open Go.RowKit

theorem Try.info22 : (Try.prog.info? 22).map (fun i => (i.zero, i.size, i.bytes)) = some (some (.slice none 0 0), 1, 24) := by kernel_rfl

/-- The elements of a copy: in a block behind g0. -/
def OwnAt (w : World) (g0 : Nat) (A : Option Addr) (zs : List Int) : Prop :=
  zs = [] ∨ ∃ b, A = some ⟨b, 0, none⟩ ∧ g0 < b ∧ Lie w b 0 zs
theorem OwnAt.ints {w : World} {g0 : Nat} {A : Option Addr} {zs : List Int} (h : OwnAt w g0 A zs) : IntsAt w A zs := by
  rcases h with h | ⟨b, h1, _, h3⟩
  · exact .inl h
  · exact .inr ⟨b, 0, h1, h3⟩
theorem OwnAt.later {w w' : World} {g0 : Nat} {A : Option Addr} {zs : List Int} (h : OwnAt w g0 A zs) (hb : Below w.heap.size w w') : OwnAt w' g0 A zs := by
  rcases h with h | ⟨b, h1, h2, h3⟩
  · exact .inl h
  · exact .inr ⟨b, h1, h2, h3.later hb h3.1⟩
theorem OwnAt.grown {w w' : World} {g0 : Nat} {A : Option Addr} {zs : List Int} (h : OwnAt w g0 A zs) (hg : w.grownBy w' (some g0)) : OwnAt w' g0 A zs := by
  rcases h with h | ⟨b, h1, h2, h3⟩
  · exact .inl h
  · exact .inr ⟨b, h1, h2, Nat.lt_of_lt_of_le h3.1 hg.size, fun j hj => (World.cell?_of_block (hg.block b h3.1 (by simp; omega))).trans (h3.2 j hj)⟩

theorem Copied.out {w w' : World} {A : Option Addr} {zs : List Int} {e : Ending} (h : Copied w w' A zs e) {g0 : Nat} (hg : g0 < w.heap.size) :
    ∃ A' C', e = .returned (.slice A' zs.length C') ∧ ((A' = none → C' = 0) ∧ zs.length ≤ C') ∧ OwnAt w' g0 A' zs ∧ Below w.heap.size w w' := by
  rcases h with ⟨_, rfl, he, rfl⟩ | ⟨he, ho, hb⟩
  · exact ⟨none, 0, he, ⟨fun _ => rfl, Nat.le_refl _⟩, .inl rfl, Below.refl _ _⟩
  · exact ⟨_, _, he, ⟨(by intro h; cases h), Nat.le_refl _⟩, .inr ⟨_, rfl, hg, lie_own ho⟩, hb⟩

/-- The first k copies are made. -/
def Cloned (g0 n : Nat) (Z : List (List Int)) (k : Nat) (w : World) : Prop :=
  ∃ (A : Nat → Option Addr) (C : Nat → Nat) (xs : List Value), w.ownsRow g0 22 1 (.slice (some ⟨g0, 0, none⟩) n n) n xs ∧
    ∀ j, j < k → xs[j]? = some (.slice (A j) (Z.getD j []).length (C j)) ∧ ((A j = none → C j = 0) ∧ (Z.getD j []).length ≤ C j) ∧ OwnAt w g0 (A j) (Z.getD j [])

theorem Cloned.lt {g0 n : Nat} {Z : List (List Int)} {k : Nat} {w : World} (h : Cloned g0 n Z k w) : g0 < w.heap.size := by
  obtain ⟨A, C, xs, ho, _⟩ := h
  exact (ho.lt g0 rfl).2
theorem Cloned.cell {g0 n : Nat} {Z : List (List Int)} {k : Nat} {w : World} (h : Cloned g0 n Z k w) (hk : k < n) : (∃ v, w.cell? ⟨g0, k, none⟩ = some v) ∧ w.frozen? ⟨g0, k, none⟩ = false := by
  obtain ⟨A, C, xs, ho, _⟩ := h
  refine ⟨⟨xs[k]'(by have := ho.1; omega), ?_⟩, ho.frozenAt k⟩
  rw [ho.cellAt k (by omega)]
  exact List.getElem?_eq_getElem _
theorem Cloned.step {g0 n : Nat} {Z : List (List Int)} {k : Nat} {w w1 : World} (h : Cloned g0 n Z k w) (hk : k < n) (hb : Below w.heap.size w w1) {A' : Option Addr} {C' : Nat} (hC : (A' = none → C' = 0) ∧ (Z.getD k []).length ≤ C') (hO : OwnAt w1 g0 A' (Z.getD k [])) :
    Cloned g0 n Z (k + 1) (w1.setCell ⟨g0, k, none⟩ (.slice A' (Z.getD k []).length C')) := by
  obtain ⟨A, C, xs, ho, h⟩ := h
  have ho1 : w1.ownsRow g0 22 1 (.slice (some ⟨g0, 0, none⟩) n n) n xs :=
    ho.kept (row := none) ⟨hb.os, hb.tape, hb.output, hb.size, fun k hk _ => hb.block k hk⟩ (by right; simp [Value.ownBlock])
  have hl : xs.length = n := by simpa using ho.1
  have hst := ho1.stored k (.slice A' (Z.getD k []).length C')
  refine ⟨fun j => if j = k then A' else A j, fun j => if j = k then C' else C j, _, hst.1, fun j hj => ?_⟩
  by_cases hjk : j = k
  · subst hjk
    simp only [if_true]
    exact ⟨by rw [List.getElem?_set_self (by omega)], hC, hO.grown hst.2⟩
  · simp only [if_neg hjk]
    have := h j (by omega)
    exact ⟨by rw [List.getElem?_set_ne (by omega)]; exact this.1, this.2.1, (this.2.2.later hb).grown hst.2⟩
theorem Cloned.rows {g0 n : Nat} {Z : List (List Int)} {w : World} (h : Cloned g0 n Z n w) (hn : Z.length = n) : ∃ A C, RowsAt w g0 0 A C Z := by
  have hlt := h.lt
  obtain ⟨A, C, xs, ho, h⟩ := h
  refine ⟨A, C, hlt, fun j hj => ?_⟩
  have := h j (by omega)
  refine ⟨?_, this.2.1, this.2.2.ints⟩
  rw [Nat.zero_add, ho.cellAt j (by omega)]
  exact this.1

set_option maxHeartbeats 400000 in
theorem sets_nil (w : World) :
    Calls Try.prog 9 #[.slice none 0 0] w fun e w' => e = .returned (.slice none 0 0) ∧ w = w' := by
  have hnil := fun (W : World) (a : Option Addr) (n c n' c' : Nat) => Lib.run_eql_slice_nil (P := Try.prog) W 23 22 a n c n' c' Try.underlying23
  go_enter Try.func9, Try.ntmps9
  go_wp2
  go_ret
  exact ⟨rfl, rfl⟩

set_option maxHeartbeats 400000 in
theorem sets_empty (a : Addr) (c : Nat) (w : World) :
    Calls Try.prog 9 #[.slice (some a) 0 c] w fun e w' => e = .returned (.slice (some ⟨w.heap.size, 0, none⟩) 0 0) ∧ Cloned w.heap.size 0 [] 0 w' ∧ Below w.heap.size w w' := by
  obtain ⟨i, hi, hz0, hz1, hz2⟩ := info_parts Try.info22
  have hnil := fun (W : World) (a : Option Addr) (n c n' c' : Nat) => Lib.run_eql_slice_nil (P := Try.prog) W 23 22 a n c n' c' Try.underlying23
  go_enter Try.func9, Try.ntmps9
  go_wp2_with (at_make; refine wpList_make_full _ rfl _ _ 23 rfl w.heap.size 22 i _ 1 Try.underlying23 hi hz0 hz1 _ _ _ _ 0 rfl rfl rfl rfl (by omega) (by unfold maxLen; omega) (Nat.le_refl _) ?_; intro w1 hown hgr)
  have hb1 : Below w.heap.size w w1 := (Below.refl _ _).grown hgr (Nat.le_refl _) (fun k hk => by cases hk)
  have hcl : Cloned w.heap.size 0 [] 0 w1 := ⟨fun _ => none, fun _ => 0, _, hown, fun j hj => absurd hj (by omega)⟩
  clear hown hgr
  go_loop [4] (fun i => i = .int .i64 0) (fun _ => 0)
  case atStart => exact rfl
  case round =>
    obtain rfl := hrel
    go_wp2
    go_ret
    exact ⟨rfl, hcl, hb1⟩

set_option maxHeartbeats 400000 in
theorem sets_some (b off n c : Nat) (A : Nat → Option Addr) (C : Nat → Nat) (Z : List (List Int)) (w : World) (hn : n ≤ 1048576) (hN : Z.length = n) (hZ : ∀ j, j < n → (Z.getD j []).length ≤ 1048576) (H : RowsAt w b off A C Z) :
    Calls Try.prog 9 #[.slice (some ⟨b, off, none⟩) n c] w fun e w' => e = .returned (.slice (some ⟨w.heap.size, 0, none⟩) n n) ∧ Cloned w.heap.size n Z n w' ∧ Below w.heap.size w w' := by
  obtain ⟨i, hi, hz0, hz1, hz2⟩ := info_parts Try.info22
  have HN := hide' hN
  have HZ := hide' hZ
  clear hN hZ
  have hnil := fun (W : World) (a : Option Addr) (n c n' c' : Nat) => Lib.run_eql_slice_nil (P := Try.prog) W 23 22 a n c n' c' Try.underlying23
  go_enter Try.func9, Try.ntmps9
  go_wp2_with (at_make; refine wpList_make_full _ rfl _ _ 23 rfl w.heap.size 22 i _ 1 Try.underlying23 hi hz0 hz1 _ _ _ _ n rfl rfl rfl rfl (by rw [hz2]; omega) (by unfold maxLen; omega) (Nat.le_refl _) ?_; intro w1 hown hgr)
  have hb1 : Below w.heap.size w w1 := (Below.refl _ _).grown hgr (Nat.le_refl _) (fun k hk => by cases hk)
  have hcl : Cloned w.heap.size n Z 0 w1 := ⟨fun _ => none, fun _ => 0, _, hown, fun j hj => absurd hj (by omega)⟩
  clear hown hgr
  go_loopw [4] (fun i wr => ∃ k : Nat, k ≤ n ∧ i = .int .i64 k ∧ Cloned w.heap.size n Z k wr ∧ Below w.heap.size w wr) (fun i _ => n - (intOf i).toNat)
  case atStart => exact ⟨0, by omega, rfl, hcl, hb1⟩
  case round =>
    obtain ⟨k, hk, rfl, hcl, hb⟩ := hrel
    by_cases hlt : k < n
    · have hrow := H.2 k (by rw [HN.out]; exact hlt)
      have hc1 : wr.cell? ⟨b, off + k, none⟩ = some (.slice (A k) (Z.getD k []).length (C k)) := (hb.cell (p := ⟨b, off + k, none⟩) H.1).trans hrow.1
      have hC := clone_any (A k) (C k) (Z.getD k []) wr (HZ.out k hlt) hrow.2.1.1 (hrow.2.2.later hb)
      have hst := fun w1 hb A' C' hC hO => hcl.step (w1 := w1) (A' := A') (C' := C') hlt hb hC hO
      obtain ⟨⟨v, hc2⟩, hf⟩ := hcl.cell hlt
      have hg0 := hcl.lt
      obtain ⟨zs, hz⟩ : ∃ zs, Z.getD k [] = zs := ⟨_, rfl⟩
      rw [hz] at hc1 hC
      simp only [hz] at hst
      have HST := hide' hst
      have HC := hide' hC
      clear hst hC hrow hz hcl
      go_wp2_with (go_at_call 8; refine HC.out.mono ?_; intro e w1 hcp; obtain ⟨A', C', rfl, hC', hO, hb1⟩ := hcp.out hg0; clear hcp; have hc3 := (hb1.cell (p := ⟨w.heap.size, k, none⟩) hg0).trans hc2; have hf3 := (hb1.frozen (p := ⟨w.heap.size, k, none⟩) hg0).trans hf; clear hc1 hc2 hf)
      go_roundw
      case rel => exact ⟨k + 1, by omega, by go_num, HST.out w1 hb1 A' C' hC' hO, (hb.trans (hb1.mono hb.size)).setCell (Nat.le_refl _) _⟩
      case measure => simp [intOf]; omega
    · obtain rfl : k = n := by omega
      go_wp2_with fail
      go_ret
      exact ⟨rfl, hcl, hb⟩

end Go.Proofs.Qxb6605816a
