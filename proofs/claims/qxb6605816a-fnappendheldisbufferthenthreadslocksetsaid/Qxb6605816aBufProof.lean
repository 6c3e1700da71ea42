/-
  FnAppendHeldIsBufferThenThreadsLockset (3): no set; the row.
-/
import Derived.Test.Qxb6605816aBuf
import Derived.Test.Qxb6605816aOpen
import Derived.ProofKit
import Derived.SizedLaws
import Derived.Deep.Matrix
namespace Go.Proofs.Qxb6605816a.bufRow
open Go.ChangeShapes Go.WideShapes Go.ChangeAt Go.RowKit Go.Deep

set_option maxHeartbeats 400000 in
theorem bytes6_zero (pl : Option Addr) (nl cl : Nat) (th : Int) (a : Option Addr) (c : Nat) (w : World) (hnl : nl ≤ 9223372036854775807) :
    Calls Try.prog 6 #[.slice pl nl cl, .int .i64 th, .slice a 0 c] w fun e w' => SomeBool e ∧ w = w' := by
  by_cases hbl : (1048576 : Int) < (nl : Int)
  · go_enter Try.func6, Try.ntmps6
    go_wp2
    go_ret
    exact ⟨⟨_, rfl⟩, rfl⟩
  go_enter Try.func6, Try.ntmps6
  go_wp2
  go_loop [8] (fun i => i = .int .i64 0) (fun _ => 0)
  case atStart => exact rfl
  case round =>
    obtain rfl := hrel
    go_wp2
    go_ret
    exact ⟨⟨_, rfl⟩, rfl⟩

set_option maxRecDepth 100000 in
set_option maxHeartbeats 1000000 in
theorem buf_zero (pl : Option Addr) (nl cl : Nat) (th : Int) (a : Option Addr) (c : Nat) (w : World) (hnl : nl ≤ 9223372036854775807) :
    Calls Try.prog 3 #[.slice pl nl cl, .int .i64 th, .slice a 0 c] w fun e w' => e = .returned (.bool true) ∧ Below w.heap.size w w' := by
  have h6 := hide' (bytes6_zero pl nl cl th a c w hnl)
  by_cases hbl : (65536 : Int) < (nl : Int)
  · go_enter Try.func3, Try.ntmps3
    go_wp2_with (go_at_call 6; refine h6.out.mono ?_; rintro e w' ⟨⟨z, rfl⟩, rfl⟩; cases z)
    all_goals (go_ret; exact ⟨rfl, Below.refl _ _⟩)
  go_enter Try.func3, Try.ntmps3
  go_wp2_with (go_at_call 6; refine h6.out.mono ?_; rintro e w' ⟨⟨z, rfl⟩, rfl⟩; cases z)
  · go_ret; exact ⟨rfl, Below.refl _ _⟩
  go_loop [7, 8] (fun l i => i = .int .i64 0 ∧ l = .int .i64 (8 * (nl : Int))) (fun _ _ => 0)
  case atStart => exact ⟨rfl, rfl⟩
  case round =>
    obtain ⟨rfl, rfl⟩ := hrel
    by_cases hth0 : th < 0
    · go_wp2
      go_ret
      exact ⟨rfl, Below.refl _ _⟩
    · have h0 : 0 ≤ th := by omega
      go_wp2
      go_ret
      exact ⟨rfl, Below.refl _ _⟩

theorem own : ownKnob Try.prog.godebug = none := by kernel_rfl
theorem laidOut : laidOutB Try.prog = true := by kernel_rfl
theorem cells3 : Try.prog.cellsOf 3 = 1 := by kernel_rfl
theorem cells22 : Try.prog.cellsOf 22 = 1 := by kernel_rfl

set_option maxHeartbeats 2000000 in
set_option maxRecDepth 100000 in
theorem lifted (os : Os) (started : os.Started) (H : Type) (enc : TypeId × Value → H) :
    ReturnsInHanded {} Try.checked os 3 .any (Rows.fnAppendHeldIsBufferThenThreadsLocksetSpec.pre6 enc Try.prog Try.f3 Rows.fnAppendHeldIsBufferThenThreadsLocksetRow.domain false) (Rows.fnAppendHeldIsBufferThenThreadsLocksetSpec.post enc Try.prog Try.f3 false true false false) := by
  refine returnsInHanded_of_change (C := Try.checked) own started (by kernel_rfl) Try.func3
    (ChangeSpec.witness6 (enc := enc) (C := Try.checked) false ⟨#[], #[.slice none 0 0, .int .i64 0, .slice none 0 0], []⟩ 8 (by kernel_rfl) (by kernel_rfl) (by kernel_rfl) (by kernel_rfl)) ?_
  intro W base args ds gs before hval0 hW hcnd _
  have hval : ∀ (j : Nat) t v, Try.f3.params[j]? = some t → args[j]? = some v → Value.okWide Try.prog W .any base t v := hval0
  have hW' := hW
  obtain ⟨p, q, hA0, hV, rfl, hfz, hnd⟩ := hW
  have hA : DataW.TrodAll enc Try.prog W 0 (fun _ => true) true Try.f3.params.toList args.toList ds p := hA0
  rw [Try.params3] at hA hval
  obtain ⟨v0, v1, v2, d0, d1, d2, p0, p1, p2, rfl, rfl, rfl, h0, h1, h2⟩ := trodAll_three hA
  obtain ⟨rfl, rfl⟩ := trodVars_none hV
  obtain ⟨al, nl, cl, rfl⟩ := okWide_slice Try.underlying22 (hval 0 22 v0 rfl rfl)
  obtain ⟨th, rfl, rfl, rfl, wth⟩ := open_int Try.underlying3 (hval 1 3 v1 rfl rfl) h1
  obtain ⟨a0, len, cap, rfl⟩ := okWide_slice Try.underlying23 (hval 2 23 v2 rfl rfl)
  have h0k := h0
  have h2k := h2
  obtain ⟨fuel0, hf0⟩ := h0
  obtain ⟨fuel2, hf2⟩ := h2
  clear hA0 hval0
  simp only [List.append_nil] at hW'
  have hlt : ∀ y ∈ p0 ++ ([] ++ p2), y.block < W.heap.size := fun y hy => by simpa using hW'.lt y (by simpa using hy)
  have hlt0 : ∀ y ∈ p0, y.block < W.heap.size := fun y hy => hlt y (by simp [hy])
  have hlt2 : ∀ y ∈ p2, y.block < W.heap.size := fun y hy => hlt y (by simp [hy])
  have fin : ∀ (W' : World), Below W.heap.size W W' → Rows.fnAppendHeldIsBufferThenThreadsLocksetSpec.post enc Try.checked.prog Try.f3 false true false false W #[.slice al nl cl, .int .i64 th, .slice a0 len cap] (.bool true) W' := by
    intro W' hnx
    refine ⟨_, _, _, [], p0 ++ ([] ++ p2), [], hW', ?_, ?_, rfl, hnx.frame _, fun h => by cases h⟩
    · exact trodAll_mk1 (shut_bool Try.underlying4 true)
    · exact trodAll_mk3 (Below.trod laidOut (by kernel_rfl) (of_decide_eq_true (by kernel_rfl)) h0k hnx hlt0) (shut_int Try.underlying3 wth) (Below.trod laidOut (by kernel_rfl) (of_decide_eq_true (by kernel_rfl)) h2k hnx hlt2)
  -- the buffer
  obtain ⟨lz, hlz, hlc, hLI, hnl⟩ : ∃ lz : List Int, lz.length = nl ∧ (al = none → cl = 0) ∧ IntsAt W al lz ∧ nl ≤ 9223372036854775807 := by
    rcases open_ints Try.underlying22 Try.underlying3 cells3 hf0 with ⟨hcs, hx⟩ | ⟨a, len', cap', zs, hcs, _, hl, hm, hz, hx, hcell, hwz⟩
    · simp [Value.cells] at hcs
      obtain ⟨rfl, rfl, rfl⟩ := hcs
      exact ⟨[], rfl, fun _ => rfl, .inl rfl, by omega⟩
    · simp [Value.cells] at hcs
      obtain ⟨rfl, rfl, rfl⟩ := hcs
      simp only [if_true] at hz
      unfold maxLen at hm
      exact ⟨zs.take nl, by simp; omega, (by intro h; cases h), ints_of_cells hl hz (by intro h; cases h) (fun a' ha c hc => by cases ha; exact hcell c (by omega)), by omega⟩
  subst hlz
  rcases open_int_rows Try.underlying23 Try.underlying22 Try.underlying3 cells22 cells3 hf2 with ⟨hcs, hx⟩ | ⟨a, len', cap', A, L, C, Z, hcs, _, hl, hm, hx, hrow⟩
  · simp [Value.cells] at hcs
    obtain ⟨rfl, rfl, rfl⟩ := hcs
    refine (buf_zero al lz.length cl th none 0 W hnl).mono fun e W' ⟨he, hw⟩ => ?_
    subst he
    exact ⟨_, rfl, fin W' hw⟩
  · simp [Value.cells] at hcs
    obtain ⟨rfl, rfl, rfl⟩ := hcs
    by_cases hl0 : len = 0
    · subst hl0
      refine (buf_zero al lz.length cl th (some a) cap W hnl).mono fun e W' ⟨he, hw⟩ => ?_
      subst he
      exact ⟨_, rfl, fin W' hw⟩
    · obtain ⟨b, off, spot⟩ := a
      have hspot : spot = none := by simpa [Addr.add] using World.cell?_spot (hrow 0 (by omega)).1
      subst hspot
      unfold maxLen at hm
      refine (buf_some al cl b off len cap th lz A C (rowsOf len L Z) W hnl hlc hLI (by omega) (rowsOf_length _ _ _) (rows_short hl hrow) (rows_of_cells hl (by omega) hrow)).mono fun e W' ⟨he, hw⟩ => ?_
      subst he
      exact ⟨_, rfl, fin W' hw⟩

end Go.Proofs.Qxb6605816a.bufRow
namespace Go.Proofs.Qxb6605816a
theorem appendHeldIsBufferThenThreadsLockset : Rows.FnAppendHeldIsBufferThenThreadsLocksetSaid :=
  OpenClaim.holds_of_wide 3 Try.f3 rfl rfl rfl rfl rfl rfl rfl ⟨rfl, rfl, rfl, rfl, rfl⟩ rfl rfl rfl rfl rfl (by kernel_rfl) Try.func3 (by kernel_rfl)
    (of_decide_eq_true (by kernel_rfl)) (by unfold Func.isWrapper; first | (rw [if_pos (by decide +kernel)]; kernel_rfl) | (rw [if_neg (by decide +kernel)]; exact ⟨rfl, rfl⟩))
    (fun os started H enc _ => bufRow.lifted os started H enc)
end Go.Proofs.Qxb6605816a
