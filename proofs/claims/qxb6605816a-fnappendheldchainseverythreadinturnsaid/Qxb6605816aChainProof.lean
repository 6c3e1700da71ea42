/-
  FnAppendHeldChainsEveryThreadInTurn (4): the row.
-/
import Derived.Test.Qxb6605816aChain
import Derived.Test.Qxb6605816aOpen
import Derived.ProofKit
import Derived.SizedLaws
import Derived.Deep.Matrix
namespace Go.Proofs.Qxb6605816a.chainRow
open Go.ChangeShapes Go.WideShapes Go.ChangeAt Go.RowKit Go.Deep

theorem own : ownKnob Try.prog.godebug = none := by kernel_rfl
theorem laidOut : laidOutB Try.prog = true := by kernel_rfl
theorem cells3 : Try.prog.cellsOf 3 = 1 := by kernel_rfl
theorem cells22 : Try.prog.cellsOf 22 = 1 := by kernel_rfl

set_option maxHeartbeats 2000000 in
set_option maxRecDepth 100000 in
theorem lifted (os : Os) (started : os.Started) (H : Type) (enc : TypeId × Value → H) :
    ReturnsInHanded {} Try.checked os 4 .any (Rows.fnAppendHeldChainsEveryThreadInTurnSpec.pre6 enc Try.prog Try.f4 Rows.fnAppendHeldChainsEveryThreadInTurnRow.domain false) (Rows.fnAppendHeldChainsEveryThreadInTurnSpec.post enc Try.prog Try.f4 false true false false) := by
  refine returnsInHanded_of_change (C := Try.checked) own started (by kernel_rfl) Try.func4
    (ChangeSpec.witness6 (enc := enc) (C := Try.checked) false ⟨#[], #[.slice none 0 0, .slice none 0 0], []⟩ 8 (by kernel_rfl) (by kernel_rfl) (by kernel_rfl) (by kernel_rfl)) ?_
  intro W base args ds gs before hval0 hW hcnd _
  have hval : ∀ (j : Nat) t v, Try.f4.params[j]? = some t → args[j]? = some v → Value.okWide Try.prog W .any base t v := hval0
  have hW' := hW
  obtain ⟨p, q, hA0, hV, rfl, hfz, hnd⟩ := hW
  have hA : DataW.TrodAll enc Try.prog W 0 (fun _ => true) true Try.f4.params.toList args.toList ds p := hA0
  rw [Try.params4] at hA hval
  obtain ⟨v0, v1, d0, d1, p0, p1, rfl, rfl, rfl, h0, h1⟩ := trodAll_two hA
  obtain ⟨rfl, rfl⟩ := trodVars_none hV
  obtain ⟨al, nl, cl, rfl⟩ := okWide_slice Try.underlying22 (hval 0 22 v0 rfl rfl)
  obtain ⟨a0, len, cap, rfl⟩ := okWide_slice Try.underlying23 (hval 1 23 v1 rfl rfl)
  have h0k := h0
  have h1k := h1
  obtain ⟨fuel0, hf0⟩ := h0
  obtain ⟨fuel1, hf1⟩ := h1
  clear hA0 hval0
  simp only [List.append_nil] at hW'
  have hlt : ∀ y ∈ p0 ++ p1, y.block < W.heap.size := fun y hy => by simpa using hW'.lt y (by simpa using hy)
  have hlt0 : ∀ y ∈ p0, y.block < W.heap.size := fun y hy => hlt y (by simp [hy])
  have hlt1 : ∀ y ∈ p1, y.block < W.heap.size := fun y hy => hlt y (by simp [hy])
  have fin : ∀ (W' : World), Below W.heap.size W W' → Rows.fnAppendHeldChainsEveryThreadInTurnSpec.post enc Try.checked.prog Try.f4 false true false false W #[.slice al nl cl, .slice a0 len cap] (.bool true) W' := by
    intro W' hnx
    refine ⟨_, _, _, [], p0 ++ p1, [], hW', ?_, ?_, rfl, hnx.frame _, fun h => by cases h⟩
    · exact trodAll_mk1 (shut_bool Try.underlying4 true)
    · exact trodAll_mk2 (Below.trod laidOut (by kernel_rfl) (of_decide_eq_true (by kernel_rfl)) h0k hnx hlt0) (Below.trod laidOut (by kernel_rfl) (of_decide_eq_true (by kernel_rfl)) h1k hnx hlt1)
  obtain ⟨lz, hlz, hlc, hLI, hnl⟩ : ∃ lz : List Int, lz.length = nl ∧ (al = none → cl = 0) ∧ IntsAt W al lz ∧ nl ≤ 9223372036854775807 := by
    rcases open_ints Try.underlying22 Try.underlying3 cells3 hf0 with ⟨hcs, hx⟩ | ⟨a, len', cap', zs, hcs, _, hl, hm, hz, hx, hcell, hwz⟩
    · simp [Value.cells] at hcs
      obtain ⟨rfl, rfl, rfl⟩ := hcs
      exact ⟨[], rfl, fun _ => rfl, .inl rfl, by omega⟩
    · simp [Value.cells] at hcs
      obtain ⟨rfl, rfl, rfl⟩ := hcs
      simp only [if_true] at hz
      unfold maxLen at hm
      exact ⟨zs.take nl, by simp; omega, (by intro h; cases h), ints_of_cells hl hz (by intro h; cases h) (fun a' ha c hc => by cases ha; exact hcell c (by omega)), by omega⟩
  subst hlz
  have done : ∀ (A : Nat → Option Addr) (C : Nat → Nat) (Z : List (List Int)), len ≤ 9223372036854775807 → Z.length = len → (∀ j, j < len → (Z.getD j []).length ≤ 9223372036854775807) → (a0 = none → cap = 0) → SetsAt W a0 A C Z →
      Calls Try.checked.prog 4 #[.slice al lz.length cl, .slice a0 len cap] W fun e W' => ∃ v, e = Ending.returned v ∧ Rows.fnAppendHeldChainsEveryThreadInTurnSpec.post enc Try.checked.prog Try.f4 false true false false W #[.slice al lz.length cl, .slice a0 len cap] v W' := by
    intro A C Z h1 h2 h3 h4 h5
    refine (chain_all al cl a0 len cap lz A C Z W hnl hlc hLI h1 h2 h3 h4 h5).mono fun e W' ⟨he, hw⟩ => ?_
    subst he
    exact ⟨_, rfl, fin W' hw⟩
  rcases open_int_rows Try.underlying23 Try.underlying22 Try.underlying3 cells22 cells3 hf1 with ⟨hcs, hx⟩ | ⟨a, len', cap', A, L, C, Z, hcs, _, hl, hm, hx, hrow⟩
  · simp [Value.cells] at hcs
    obtain ⟨rfl, rfl, rfl⟩ := hcs
    exact done (fun _ => none) (fun _ => 0) [] (by omega) rfl (fun j hj => absurd hj (by omega)) (fun _ => rfl) (.inl rfl)
  · simp [Value.cells] at hcs
    obtain ⟨rfl, rfl, rfl⟩ := hcs
    unfold maxLen at hm
    by_cases hl0 : len = 0
    · subst hl0
      exact done (fun _ => none) (fun _ => 0) [] (by omega) rfl (fun j hj => absurd hj (by omega)) (by intro h; cases h) (.inl rfl)
    · obtain ⟨b, off, spot⟩ := a
      have hspot : spot = none := by simpa [Addr.add] using World.cell?_spot (hrow 0 (by omega)).1
      subst hspot
      exact done A C (rowsOf len L Z) (by omega) (rowsOf_length _ _ _) (rows_short hl hrow) (by intro h; cases h) (.inr ⟨b, off, rfl, rows_of_cells hl (by omega) hrow⟩)

end Go.Proofs.Qxb6605816a.chainRow
namespace Go.Proofs.Qxb6605816a
theorem appendHeldChainsEveryThreadInTurn : Rows.FnAppendHeldChainsEveryThreadInTurnSaid :=
  OpenClaim.holds_of_wide 4 Try.f4 rfl rfl rfl rfl rfl rfl rfl ⟨rfl, rfl, rfl, rfl, rfl⟩ rfl rfl rfl rfl rfl (by kernel_rfl) Try.func4 (by kernel_rfl)
    (of_decide_eq_true (by kernel_rfl)) (by unfold Func.isWrapper; first | (rw [if_pos (by decide +kernel)]; kernel_rfl) | (rw [if_neg (by decide +kernel)]; exact ⟨rfl, rfl⟩))
    (fun os started H enc _ => chainRow.lifted os started H enc)
end Go.Proofs.Qxb6605816a
