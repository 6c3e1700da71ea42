/-
  FnAllDigitsAgreesAtAnyCut (3): the nil slice; the row.
-/
import Derived.Test.Qxb6615015aAgrees
import Derived.Test.Qxb6615015aCF
import Derived.ProofKit
import Derived.SizedLaws
namespace Go.Proofs.Qxb6615015a
open Go.ChangeShapes Go.WideShapes Go.ChangeAt Go.RowKit

set_option maxHeartbeats 400000 in
theorem agrees_nil (w : World) (k : Int) :
    Calls Try.prog 3 #[.slice none 0 0, .int .i64 k] w fun e w' => e = .returned (.bool true) ∧ Below w.heap.size w w' := by
  have h5 := bytes5_none none 0 w k
  have h6 := left_none none 0 w 1048576
  by_cases hk0 : k < 0
  · go_enter Try.func3, Try.ntmps3
    go_wp2_with (first | (go_at_call 5; refine h5.mono ?_; rintro e w' ⟨⟨z, rfl⟩, rfl⟩; cases z) | (go_at_call 6; refine h6.mono ?_; rintro e w' ⟨⟨z, rfl⟩, rfl⟩))
    all_goals (go_ret; exact ⟨rfl, Below.refl _ _⟩)
  by_cases hkn : 0 < k
  · go_enter Try.func3, Try.ntmps3
    go_wp2_with (first | (go_at_call 5; refine h5.mono ?_; rintro e w' ⟨⟨z, rfl⟩, rfl⟩; cases z) | (go_at_call 6; refine h6.mono ?_; rintro e w' ⟨⟨z, rfl⟩, rfl⟩))
    all_goals (go_ret; exact ⟨rfl, Below.refl _ _⟩)
  obtain rfl : k = 0 := by omega
  go_enter Try.func3, Try.ntmps3
  go_wp2_with (first | (go_at_call 5; refine h5.mono ?_; rintro e w' ⟨⟨z, rfl⟩, rfl⟩; cases z) | (go_at_call 6; refine h6.mono ?_; rintro e w' ⟨⟨z, rfl⟩, rfl⟩) | (go_at_call 7; refine (zall_none _ _ _).mono ?_; rintro e w' ⟨rfl, rfl⟩) | (go_at_call 8; refine (every_none _ _ _).mono ?_; rintro e w' ⟨rfl, rfl⟩))
  all_goals (go_ret; exact ⟨by simp, Below.refl _ _⟩)

set_option maxHeartbeats 400000 in
theorem agrees_empty (a : Addr) (c : Nat) (w : World) (k : Int) :
    Calls Try.prog 3 #[.slice (some a) 0 c, .int .i64 k] w fun e w' => e = .returned (.bool true) ∧ Below w.heap.size w w' := by
  have h5 := bytes5_none (some a) c w k
  have h6 := left_none (some a) c w 1048576
  by_cases hk0 : k < 0
  · go_enter Try.func3, Try.ntmps3
    go_wp2_with (first | (go_at_call 5; refine h5.mono ?_; rintro e w' ⟨⟨z, rfl⟩, rfl⟩; cases z) | (go_at_call 6; refine h6.mono ?_; rintro e w' ⟨⟨z, rfl⟩, rfl⟩))
    all_goals (go_ret; exact ⟨rfl, Below.refl _ _⟩)
  by_cases hkn : 0 < k
  · go_enter Try.func3, Try.ntmps3
    go_wp2_with (first | (go_at_call 5; refine h5.mono ?_; rintro e w' ⟨⟨z, rfl⟩, rfl⟩; cases z) | (go_at_call 6; refine h6.mono ?_; rintro e w' ⟨⟨z, rfl⟩, rfl⟩))
    all_goals (go_ret; exact ⟨rfl, Below.refl _ _⟩)
  obtain rfl : k = 0 := by omega
  obtain ⟨i, hi, hz0, hz1, hz2⟩ := info_parts Try.info9
  have hisz : (Try.prog.info? 9).map (·.size) = some 1 := by rw [hi]; simp [hz1]
  have tok : True := trivial
  go_enter Try.func3, Try.ntmps3
  go_wp2_with (first
    | (go_at_call 5; refine h5.mono ?_; rintro e w' ⟨⟨z, rfl⟩, rfl⟩; cases z)
    | (go_at_call 6; refine h6.mono ?_; rintro e w' ⟨⟨z, rfl⟩, rfl⟩)
    | (go_at_call 7; refine (zall_none _ _ _).mono ?_; rintro e w' ⟨rfl, rfl⟩)
    | (go_at_call 8; refine (every_none _ _ _).mono ?_; rintro e w' ⟨rfl, rfl⟩)
    | (at_make; refine wpList_make_full _ rfl _ _ 22 rfl w.heap.size 9 i _ 1 Try.underlying22 hi hz0 hz1 _ _ _ _ 0 rfl rfl rfl rfl (by omega) (by unfold maxLen; omega) (Nat.le_refl _) ?_; intro w1 hown hgr; have hb1 : Below w.heap.size w w1 := (Below.refl _ _).grown hgr (Nat.le_refl _) (fun k hk => by cases hk); clear hown hgr)
    | (have T1 := hb1; have T2 := tok; refine wpList_copy_nothing rfl (.tmp 34) (.tmp 35) 22 22 rfl 9 Try.underlying22 hisz (some ⟨w.heap.size, 0, none⟩) (some a) 0 0 0 c rfl rfl rfl ?_; clear T1 T2 tok))
  · go_ret; exact ⟨rfl, Below.refl _ _⟩
  · go_ret; exact ⟨rfl, Below.refl _ _⟩
  · go_ret; exact ⟨by simp, hb1⟩

theorem own : ownKnob Try.prog.godebug = none := by kernel_rfl
theorem laidOut : laidOutB Try.prog = true := by kernel_rfl
theorem cells9 : Try.prog.cellsOf 9 = 1 := by kernel_rfl

set_option maxHeartbeats 1000000 in
set_option maxRecDepth 100000 in
theorem agrees_lifted (os : Os) (started : os.Started) (H : Type) (enc : TypeId × Value → H) :
    ReturnsInHanded {} Try.checked os 3 .any (Rows.fnAllDigitsAgreesAtAnyCutSpec.pre6 enc Try.prog Try.f3 Rows.fnAllDigitsAgreesAtAnyCutRow.domain false) (Rows.fnAllDigitsAgreesAtAnyCutSpec.post enc Try.prog Try.f3 false true false false) := by
  refine returnsInHanded_of_change (C := Try.checked) own started (by kernel_rfl) Try.func3
    (ChangeSpec.witness6 (enc := enc) (C := Try.checked) false ⟨#[], #[.slice none 0 0, .int .i64 0], []⟩ 8 (by kernel_rfl) (by kernel_rfl) (by kernel_rfl) (by kernel_rfl)) ?_
  intro W base args ds gs before hval0 hW hcnd _
  have hval : ∀ (j : Nat) t v, Try.f3.params[j]? = some t → args[j]? = some v → Value.okWide Try.prog W .any base t v := hval0
  have hW' := hW
  obtain ⟨p, q, hA0, hV, rfl, hfz, hnd⟩ := hW
  have hA : DataW.TrodAll enc Try.prog W 0 (fun _ => true) true Try.f3.params.toList args.toList ds p := hA0
  rw [Try.params3] at hA hval
  obtain ⟨v0, v1, d0, d1, p0, p1, rfl, rfl, rfl, h0, h1⟩ := trodAll_two hA
  obtain ⟨rfl, rfl⟩ := trodVars_none hV
  obtain ⟨a0, len, cap, rfl⟩ := okWide_slice Try.underlying22 (hval 0 22 v0 rfl rfl)
  obtain ⟨k, rfl, rfl, rfl, wk⟩ := open_int Try.underlying3 (hval 1 3 v1 rfl rfl) h1
  have h0k := h0
  obtain ⟨fuel, hf⟩ := h0
  clear hA0 hval0
  simp only [List.append_nil] at hW'
  have hlt : ∀ x ∈ p0, x.block < W.heap.size := fun x hx => by simpa using hW'.lt x (by simpa using hx)
  have fin : ∀ (W' : World), Below W.heap.size W W' → Rows.fnAllDigitsAgreesAtAnyCutSpec.post enc Try.checked.prog Try.f3 false true false false W #[.slice a0 len cap, .int .i64 k] (.bool true) W' := by
    intro W' hnx
    refine ⟨_, _, _, [], p0 ++ [], [], hW', ?_, ?_, rfl, hnx.frame _, fun h => by cases h⟩
    · exact trodAll_mk1 (shut_bool Try.underlying4 true)
    · exact trodAll_mk2 (Below.trod laidOut (by kernel_rfl) (of_decide_eq_true (by kernel_rfl)) h0k hnx hlt) (shut_int Try.underlying3 wk)
  rcases open_strings Try.underlying22 Try.underlying9 cells9 hf with ⟨hcs, hx⟩ | ⟨a, len', cap', ss, hcs, _, hl, hm, hz, hx, hcell, hws⟩
  · simp [Value.cells] at hcs
    obtain ⟨rfl, rfl, rfl⟩ := hcs
    refine (agrees_nil W k).mono fun e W' ⟨he, hw⟩ => ?_
    subst he
    exact ⟨_, rfl, fin W' hw⟩
  · simp [Value.cells] at hcs
    obtain ⟨rfl, rfl, rfl⟩ := hcs
    simp only [if_true] at hz
    by_cases hl0 : len = 0
    · subst hl0
      refine (agrees_empty a cap W k).mono fun e W' ⟨he, hw⟩ => ?_
      subst he
      exact ⟨_, rfl, fin W' hw⟩
    · simp only [Prod.mk.injEq] at hx
      have hp0 := hx.2
      obtain ⟨b, off, spot⟩ := a
      have hspot : spot = none := by simpa [Addr.add] using World.cell?_spot (hcell 0 (by omega))
      subst hspot
      have hbW : b < W.heap.size := hlt (.cell b off) (by rw [hp0]; exact MemPlace.mem_row.2 ⟨0, by omega, by simp⟩)
      unfold maxLen at hm
      have L : Lies W b off len ss := ⟨hbW, by omega, fun j hj => by rw [← add_plain]; exact hcell j (by omega), hws⟩
      refine (agrees_some contains_said b off len cap ss W k (by omega) L).mono fun e W' ⟨he, hw⟩ => ?_
      subst he
      exact ⟨_, rfl, fin W' hw⟩

theorem agreesAtAnyCut : Rows.FnAllDigitsAgreesAtAnyCutSaid :=
  OpenClaim.holds_of_wide 3 Try.f3 rfl rfl rfl rfl rfl rfl rfl ⟨rfl, rfl, rfl, rfl, rfl⟩ rfl rfl rfl rfl rfl (by kernel_rfl) Try.func3 (by kernel_rfl)
    (of_decide_eq_true (by kernel_rfl)) (by unfold Func.isWrapper; first | (rw [if_pos (by decide +kernel)]; kernel_rfl) | (rw [if_neg (by decide +kernel)]; exact ⟨rfl, rfl⟩))
    (fun os started H enc _ => agrees_lifted os started H enc)

end Go.Proofs.Qxb6615015a
