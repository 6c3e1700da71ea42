/-
  FnAllDigitsInsertAnyPlace (4): the nil slice; the row.
-/
import Derived.Test.Qxb6615015aInsert
import Derived.Test.Qxb6615015aCF
import Derived.ProofKit
import Derived.SizedLaws
namespace Go.Proofs.Qxb6615015a.insRow
open Go.ChangeShapes Go.WideShapes Go.ChangeAt Go.RowKit
open Go.ChangeMaps (open_string shut_string)

theorem allD_one (x : ByteArray) : allD ([x].take 1) = digs x := by simp [allD]
theorem own_one {w : World} {B g q : Nat} {x : ByteArray} (h : w.ownsRow B 9 1 (.slice (some ⟨g, 0, none⟩) (1 + q) 1) (1 + q) ([Value.string x] ++ [])) (hq : q = 0) : w.ownsRow B 9 1 (.slice (some ⟨g, 0, none⟩) 1 1) 1 ([x].map Value.string) := by
  subst hq; simpa using h

set_option maxHeartbeats 1000000 in
theorem insert_nil (CF : CFSaid) (x : ByteArray) (w : World) (k : Int) (hx : x.size ≤ maxLen) :
    Calls Try.prog 4 #[.slice none 0 0, .string x, .int .i64 k] w fun e w' => e = .returned (.bool true) ∧ Below w.heap.size w w' := by
  have h9 := bytes9_none none 0 x w k hx
  have h6 := left_none none 0 w 1048576
  obtain ⟨i, hi, hz0, hz1, hz2⟩ := info_parts Try.info9
  obtain ⟨D, hD⟩ : ∃ D, digs x = D := ⟨_, rfl⟩
  have c2 := fun W (L : Lies W w.heap.size 0 1 [x]) => zall_any CF w.heap.size 0 1 1 [x] W (by omega) L
  have c3 := fun W => digitsOnly_any x W hx
  simp only [allD_one, hD] at c2
  simp only [hD] at c3
  have C2 := hide' c2
  have C3 := hide' c3
  clear c2 c3 hD
  have HX : Hid (x.size ≤ maxLen) := hx
  unfold maxLen at hx
  have tok1 : True := trivial
  have tok2 : True := trivial
  have tok3 : True := trivial
  go_enter Try.func4, Try.ntmps4
  go_wp2_with (first
    | (go_at_call 9; refine h9.mono ?_; rintro e w' ⟨⟨z, rfl⟩, rfl⟩; cases z)
    | (go_at_call 6; refine h6.mono ?_; rintro e w' ⟨⟨z, rfl⟩, rfl⟩)
    | (at_make; refine wpList_make_own _ rfl _ _ 22 rfl w.heap.size 9 i _ 1 Try.underlying22 hi hz0 hz1 _ _ _ 1 rfl rfl rfl (by rw [hz2]; omega) (by unfold maxLen; omega) (Nat.le_refl _) ?_; intro w3 hown3 hgr3; have hb3 : Below w.heap.size w w3 := (Below.refl _ _).grown hgr3 (Nat.le_refl _) (fun k hk => by cases hk); clear hgr3)
    | (at_builtin; have _t := tok1; refine wpList_append_fits_any _ rfl (.tmp 52) (.tmp 55) 22 rfl w.heap.size 9 i 1 Try.underlying22 hi hz1 w.heap.size 0 1 [] rfl hown3 none 0 0 [] rfl rfl (fun _ => ⟨rfl, rfl⟩) (fun ad h => by cases h) (fun u hu => by cases hu) (by omega) ?_; intro w4 hown4 hgr4; have hb4 : Below w.heap.size w w4 := hb3.grown hgr4 hb3.size (fun k hk => by cases hk; exact Nat.le_refl _); clear tok1 _t hown3 hgr4 hb3)
    | (at_builtin; have _t := tok2; refine wpList_append_fits _ rfl (.tmp 57) (.tmp 59) 22 rfl w.heap.size 9 i 1 Try.underlying22 hi hz1 w.heap.size 0 1 [] rfl (hown4.alloc _) ⟨w4.heap.size, 0, none⟩ 1 1 [.string x] rfl rfl (cell_one_new _ _ _) (by simp [Value.oneCell']) (by omega) ?_; intro w5 hown5 hgr5; have hb5 : Below w.heap.size w w5 := (hb4.alloc hb4.size _).grown hgr5 (Nat.le_trans hb4.size (by simp)) (fun k hk => by cases hk; exact Nat.le_refl _); clear tok2 _t hown4 hgr5 hb4)
    | (at_builtin; have _t := tok3; refine wpList_append_fits_any _ rfl (.tmp 61) (.tmp 64) 22 rfl w.heap.size 9 i 1 Try.underlying22 hi hz1 w.heap.size 1 1 [.string x] rfl hown5 none 0 0 [] rfl rfl (fun _ => ⟨rfl, rfl⟩) (fun ad h => by cases h) (fun u hu => by cases hu) (by omega) ?_; intro w6 hown6 hgr6; have hb6 : Below w.heap.size w w6 := hb5.grown hgr6 hb5.size (fun k hk => by cases hk; exact Nat.le_refl _); clear tok3 _t hown5 hgr6 hb5))
  all_goals first | (go_ret; exact ⟨rfl, Below.refl _ _⟩) | skip
  have LI := lies_own (own_one hown6 rfl) (fun y hy => by obtain rfl := List.mem_singleton.1 hy; exact HX.out)
  refine (zall_none _ _ _).mono ?_
  rintro e w7 ⟨rfl, rfl⟩
  clear hown6
  go_wp2_with fail
  refine (C2.out w6 LI).mono ?_
  rintro e w8 ⟨rfl, hb8⟩
  have hb8' := hb6.trans (hb8.mono hb6.size)
  clear LI hb6 hb8
  go_wp2_with fail
  refine (C3.out w8).mono ?_
  rintro e w9 ⟨rfl, rfl⟩
  go_wp2_with fail
  refine (every_none _ _ _).mono ?_
  rintro e w9 ⟨rfl, rfl⟩
  go_wp2_with fail
  go_ret
  exact ⟨by simp, hb8'⟩

theorem own : ownKnob Try.prog.godebug = none := by kernel_rfl
theorem laidOut : laidOutB Try.prog = true := by kernel_rfl
theorem cells9 : Try.prog.cellsOf 9 = 1 := by kernel_rfl

set_option maxHeartbeats 1000000 in
set_option maxRecDepth 100000 in
theorem lifted (os : Os) (started : os.Started) (H : Type) (enc : TypeId × Value → H) :
    ReturnsInHanded {} Try.checked os 4 .any (Rows.fnAllDigitsInsertAnyPlaceSpec.pre6 enc Try.prog Try.f4 Rows.fnAllDigitsInsertAnyPlaceRow.domain false) (Rows.fnAllDigitsInsertAnyPlaceSpec.post enc Try.prog Try.f4 false true false false) := by
  refine returnsInHanded_of_change (C := Try.checked) own started (by kernel_rfl) Try.func4
    (ChangeSpec.witness6 (enc := enc) (C := Try.checked) false ⟨#[], #[.slice none 0 0, .string ByteArray.empty, .int .i64 0], []⟩ 8 (by kernel_rfl) (by kernel_rfl) (by kernel_rfl) (by kernel_rfl)) ?_
  intro W base args ds gs before hval0 hW hcnd _
  have hval : ∀ (j : Nat) t v, Try.f4.params[j]? = some t → args[j]? = some v → Value.okWide Try.prog W .any base t v := hval0
  have hW' := hW
  obtain ⟨p, q, hA0, hV, rfl, hfz, hnd⟩ := hW
  have hA : DataW.TrodAll enc Try.prog W 0 (fun _ => true) true Try.f4.params.toList args.toList ds p := hA0
  rw [Try.params4] at hA hval
  obtain ⟨v0, v1, v2, d0, d1, d2, p0, p1, p2, rfl, rfl, rfl, h0, h1, h2⟩ := trodAll_three hA
  obtain ⟨rfl, rfl⟩ := trodVars_none hV
  obtain ⟨a0, len, cap, rfl⟩ := okWide_slice Try.underlying22 (hval 0 22 v0 rfl rfl)
  obtain ⟨x, rfl, rfl, rfl, wx⟩ := open_string Try.underlying9 (hval 1 9 v1 rfl rfl) h1
  obtain ⟨k, rfl, rfl, rfl, wk⟩ := open_int Try.underlying3 (hval 2 3 v2 rfl rfl) h2
  have h0k := h0
  obtain ⟨fuel, hf⟩ := h0
  clear hA0 hval0
  simp only [List.append_nil] at hW'
  have hlt : ∀ y ∈ p0, y.block < W.heap.size := fun y hy => by simpa using hW'.lt y (by simpa using hy)
  have fin : ∀ (W' : World), Below W.heap.size W W' → Rows.fnAllDigitsInsertAnyPlaceSpec.post enc Try.checked.prog Try.f4 false true false false W #[.slice a0 len cap, .string x, .int .i64 k] (.bool true) W' := by
    intro W' hnx
    refine ⟨_, _, _, [], p0 ++ ([] ++ []), [], hW', ?_, ?_, rfl, hnx.frame _, fun h => by cases h⟩
    · exact trodAll_mk1 (shut_bool Try.underlying4 true)
    · exact trodAll_mk3 (Below.trod laidOut (by kernel_rfl) (of_decide_eq_true (by kernel_rfl)) h0k hnx hlt) (shut_string Try.underlying9 wx) (shut_int Try.underlying3 wk)
  rcases open_strings Try.underlying22 Try.underlying9 cells9 hf with ⟨hcs, hx⟩ | ⟨a, len', cap', ss, hcs, _, hl, hm, hz, hx, hcell, hws⟩
  · simp [Value.cells] at hcs
    obtain ⟨rfl, rfl, rfl⟩ := hcs
    refine (insert_nil contains_said x W k wx).mono fun e W' ⟨he, hw⟩ => ?_
    subst he
    exact ⟨_, rfl, fin W' hw⟩
  · simp [Value.cells] at hcs
    obtain ⟨rfl, rfl, rfl⟩ := hcs
    simp only [if_true] at hz
    unfold maxLen at hm
    by_cases hl0 : len = 0
    · subst hl0
      refine (insert_some contains_said a 0 cap ss x W k wx (by omega) (by omega) hws (bytes9_none (some a) cap x W k wx) (fun w' _ j v hv => by simp at hv)).mono fun e W' ⟨he, hw⟩ => ?_
      subst he
      exact ⟨_, rfl, fin W' hw⟩
    · simp only [Prod.mk.injEq] at hx
      have hp0 := hx.2
      obtain ⟨b, off, spot⟩ := a
      have hspot : spot = none := by simpa [Addr.add] using World.cell?_spot (hcell 0 (by omega))
      subst hspot
      have hbW : b < W.heap.size := hlt (.cell b off) (by rw [hp0]; exact MemPlace.mem_row.2 ⟨0, by omega, by simp⟩)
      have L : Lies W b off len ss := ⟨hbW, by omega, fun j hj => by rw [← add_plain]; exact hcell j (by omega), hws⟩
      refine (insert_some contains_said ⟨b, off, none⟩ len cap ss x W k wx (by omega) (by omega) hws (bytes9_any b off len cap ss x W k wx (by omega) L) (fun w' hb => src_cells (L.later hb))).mono fun e W' ⟨he, hw⟩ => ?_
      subst he
      exact ⟨_, rfl, fin W' hw⟩

end Go.Proofs.Qxb6615015a.insRow
namespace Go.Proofs.Qxb6615015a
theorem insertAnyPlace : Rows.FnAllDigitsInsertAnyPlaceSaid :=
  OpenClaim.holds_of_wide 4 Try.f4 rfl rfl rfl rfl rfl rfl rfl ⟨rfl, rfl, rfl, rfl, rfl⟩ rfl rfl rfl rfl rfl (by kernel_rfl) Try.func4 (by kernel_rfl)
    (of_decide_eq_true (by kernel_rfl)) (by unfold Func.isWrapper; first | (rw [if_pos (by decide +kernel)]; kernel_rfl) | (rw [if_neg (by decide +kernel)]; exact ⟨rfl, rfl⟩))
    (fun os started H enc _ => insRow.lifted os started H enc)
end Go.Proofs.Qxb6615015a
