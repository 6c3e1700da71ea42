/-
  FnHotPathTrunkIsRootThenEveryChunk (5): no chunk; the row.
-/
import Derived.Test.Qxb6605816aHot
import Derived.ProofKit
import Derived.SizedLaws
import Derived.Deep.Matrix
import Derived.Test.Qxb6605816aOpen
namespace Go.Proofs.Qxb6605816a
open Go.ChangeShapes Go.WideShapes Go.ChangeAt Go.RowKit Go.Deep

theorem sets_zero (a : Option Addr) (c : Nat) (hc : a = none → c = 0) (w : World) :
    Calls Try.prog 9 #[.slice a 0 c] w fun e w' => (∃ A', e = .returned (.slice A' 0 0)) ∧ Below w.heap.size w w' := by
  cases a with
  | none =>
    obtain rfl := hc rfl
    exact (sets_nil w).mono fun e w' ⟨he, hw⟩ => ⟨⟨none, he⟩, hw ▸ Below.refl _ _⟩
  | some a => exact (sets_empty a c w).mono fun e w' ⟨he, _, hb⟩ => ⟨⟨_, he⟩, hb⟩

set_option maxRecDepth 100000 in
set_option maxHeartbeats 1000000 in
theorem hot_zero (a : Option Addr) (c : Nat) (hc : a = none → c = 0) (w : World) :
    Calls Try.prog 5 #[.slice a 0 c] w fun e w' => e = .returned (.bool true) ∧ Below w.heap.size w w' := by
  have h16 := hide' (bytes16_none a c w)
  have h9 := hide' (sets_zero a c hc w)
  clear hc
  obtain ⟨i3, hi, hz0, hz1, hz2⟩ := info_parts Try.info3
  go_enter Try.func5, Try.ntmps5
  go_wp2_with (go_at_call 16; refine h16.out.mono ?_; rintro e w' ⟨⟨z, rfl⟩, rfl⟩; cases z)
  · go_ret; exact ⟨rfl, Below.refl _ _⟩
  go_loop [3, 4] (fun l i => i = .int .i64 0 ∧ l = .int .i64 0) (fun _ _ => 0)
  case atStart => exact ⟨rfl, rfl⟩
  case round =>
    obtain ⟨rfl, rfl⟩ := hrel
    have tok1 : True := trivial
    go_wp2_with (first
      | (go_at_call 9; refine h9.out.mono ?_; rintro e w1 ⟨⟨A1, rfl⟩, hb1⟩)
      | (go_at_call 17; refine (newHot_any _).mono ?_; rintro e w2 ⟨rfl, hs2, hr2, hb2⟩)
      | (at_make; refine wpList_make_own _ rfl _ _ 22 rfl w1.heap.size 3 i3 _ 1 Try.underlying22 hi hz0 hz1 _ _ _ 1 rfl rfl rfl (by rw [hz2]; omega) (by unfold maxLen; omega) hb2.size ?_; intro w3 hown3 hgr3)
      | (at_builtin; have _t := tok1; refine wpList_append_fits _ rfl (.tmp 60) (.tmp 61) 22 rfl w1.heap.size 3 i3 1 Try.underlying22 hi hz1 w2.heap.size 0 1 [] rfl (hown3.alloc _) ⟨w3.heap.size, 0, none⟩ 1 1 [.int .i64 0] rfl rfl (cell_one_new _ _ _) (by simp [Value.oneCell']) (by omega) ?_; intro w4 hown4 hgr4; clear tok1 _t))
    have hst := st_start hs2 hr2 hb2 hgr3 (by simpa using hown4) hgr4
    obtain ⟨hp, hhp⟩ : ∃ hp, hp = w1.heap.size + 2 := ⟨_, rfl⟩
    rw [← hhp] at hst
    rw [show ((⟨w1.heap.size + 2, 0, none⟩ : Addr)) = ⟨hp, 0, none⟩ from by rw [hhp]]
    obtain ⟨wb, hwb⟩ : ∃ wb, wb = w2.heap.size := ⟨_, rfl⟩
    rw [← hwb] at hst
    rw [show ((⟨w2.heap.size, 0, none⟩ : Addr)) = ⟨wb, 0, none⟩ from by rw [hwb]]
    obtain ⟨g, M, f, P, hgB, hne⟩ := hst.path' (n := 1) rfl
    have hF := fields_any w4 hp g M f (f + 1) [0] P
    have hK := fun q => trunkIs_any (w4.drewN q) hp g M f 1 wb 1 [0] (P.moved rfl rfl) ⟨hst.lie.1, hst.lie.2⟩
    have ec : ((f + 1 : Nat) : Int) = (f : Int) + 1 := by omega
    rw [ec] at hF
    simp only [ec] at hK
    have HF := hide' hF
    have HK := hide' hK
    have HB := hide' (fun q => hb1.trans (((hst.drewN q).below).mono hb1.size))
    clear hst P hF hK ec hgB hne hhp hwb hs2 hr2 hgr3 hown4 hgr4 hown3 hb2 h16 h9 hb1
    go_loop [6, 7] (fun v i => v = .slice (some ⟨wb, 0, none⟩) 1 1 ∧ i = .int .i64 0) (fun _ _ => 0)
    case atStart => exact ⟨rfl, rfl⟩
    case round =>
      obtain ⟨rfl, rfl⟩ := hrel
      go_wp2_with (first
        | (go_at_call 19; refine HF.out.mono ?_; rintro e w6 ⟨rfl, q, rfl⟩)
        | (go_at_call 20; refine (HK.out q).mono ?_; rintro e w6 ⟨rfl, q2, rfl⟩))
      go_ret
      exact ⟨by simp, HB.out _⟩

theorem own : ownKnob Try.prog.godebug = none := by kernel_rfl
theorem laidOut : laidOutB Try.prog = true := by kernel_rfl
theorem cells3 : Try.prog.cellsOf 3 = 1 := by kernel_rfl
theorem cells22 : Try.prog.cellsOf 22 = 1 := by kernel_rfl

set_option maxHeartbeats 1000000 in
set_option maxRecDepth 100000 in
theorem hot_lifted (os : Os) (started : os.Started) (H : Type) (enc : TypeId × Value → H) :
    ReturnsInHanded {} Try.checked os 5 .any (Rows.fnHotPathTrunkIsRootThenEveryChunkSpec.pre6 enc Try.prog Try.f5 Rows.fnHotPathTrunkIsRootThenEveryChunkRow.domain false) (Rows.fnHotPathTrunkIsRootThenEveryChunkSpec.post enc Try.prog Try.f5 false true false false) := by
  refine returnsInHanded_of_change (C := Try.checked) own started (by kernel_rfl) Try.func5
    (ChangeSpec.witness6 (enc := enc) (C := Try.checked) false ⟨#[], #[.slice none 0 0], []⟩ 8 (by kernel_rfl) (by kernel_rfl) (by kernel_rfl) (by kernel_rfl)) ?_
  intro W base args ds gs before hval0 hW hcnd _
  have hval : ∀ (j : Nat) t v, Try.f5.params[j]? = some t → args[j]? = some v → Value.okWide Try.prog W .any base t v := hval0
  have hW' := hW
  obtain ⟨p, q, hA0, hV, rfl, hfz, hnd⟩ := hW
  have hA : DataW.TrodAll enc Try.prog W 0 (fun _ => true) true Try.f5.params.toList args.toList ds p := hA0
  rw [Try.params5] at hA hval
  obtain ⟨v0, d0, rfl, rfl, h0⟩ := trodAll_one hA
  obtain ⟨rfl, rfl⟩ := trodVars_none hV
  obtain ⟨a0, len, cap, rfl⟩ := okWide_slice Try.underlying23 (hval 0 23 v0 rfl rfl)
  have h0k := h0
  obtain ⟨fuel, hf⟩ := h0
  clear hA0 hval0
  simp only [List.append_nil] at hW'
  have hlt : ∀ y ∈ p, y.block < W.heap.size := fun y hy => by simpa using hW'.lt y (by simpa using hy)
  have fin : ∀ (W' : World), Below W.heap.size W W' → Rows.fnHotPathTrunkIsRootThenEveryChunkSpec.post enc Try.checked.prog Try.f5 false true false false W #[.slice a0 len cap] (.bool true) W' := by
    intro W' hnx
    refine ⟨_, _, _, [], p, [], hW', ?_, ?_, rfl, hnx.frame _, fun h => by cases h⟩
    · exact trodAll_mk1 (shut_bool Try.underlying4 true)
    · exact trodAll_mk1 (Below.trod laidOut (by kernel_rfl) (of_decide_eq_true (by kernel_rfl)) h0k hnx hlt)
  rcases open_int_rows Try.underlying23 Try.underlying22 Try.underlying3 cells22 cells3 hf with ⟨hcs, hx⟩ | ⟨a, len', cap', A, L, C, Z, hcs, _, hl, hm, hx, hrow⟩
  · simp [Value.cells] at hcs
    obtain ⟨rfl, rfl, rfl⟩ := hcs
    refine (hot_zero none 0 (fun _ => rfl) W).mono fun e W' ⟨he, hw⟩ => ?_
    subst he
    exact ⟨_, rfl, fin W' hw⟩
  · simp [Value.cells] at hcs
    obtain ⟨rfl, rfl, rfl⟩ := hcs
    by_cases hl0 : len = 0
    · subst hl0
      refine (hot_zero (some a) cap (by intro h; cases h) W).mono fun e W' ⟨he, hw⟩ => ?_
      subst he
      exact ⟨_, rfl, fin W' hw⟩
    · obtain ⟨b, off, spot⟩ := a
      have hspot : spot = none := by simpa [Addr.add] using World.cell?_spot (hrow 0 (by omega)).1
      subst hspot
      unfold maxLen at hm
      refine (hot_some b off len cap A C (rowsOf len L Z) W (by omega) (rowsOf_length _ _ _) (rows_short hl hrow) (rows_of_cells hl (by omega) hrow)).mono fun e W' ⟨he, hw⟩ => ?_
      subst he
      exact ⟨_, rfl, fin W' hw⟩

theorem trunkIsRootThenEveryChunk : Rows.FnHotPathTrunkIsRootThenEveryChunkSaid :=
  OpenClaim.holds_of_wide 5 Try.f5 rfl rfl rfl rfl rfl rfl rfl ⟨rfl, rfl, rfl, rfl, rfl⟩ rfl rfl rfl rfl rfl (by kernel_rfl) Try.func5 (by kernel_rfl)
    (of_decide_eq_true (by kernel_rfl)) (by unfold Func.isWrapper; first | (rw [if_pos (by decide +kernel)]; kernel_rfl) | (rw [if_neg (by decide +kernel)]; exact ⟨rfl, rfl⟩))
    (fun os started H enc _ => hot_lifted os started H enc)

end Go.Proofs.Qxb6605816a
