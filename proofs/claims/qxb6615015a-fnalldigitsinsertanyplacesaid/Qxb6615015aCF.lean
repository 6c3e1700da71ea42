/-
  strings.ContainsFunc(s, func(r rune) bool { return !isDigit(r) }): by the shelf's contract, over a walk of the closure (14) and of isDigit (15).
-/
import Derived.Test.Qxb6615015aDigits
import Derived.Test.Qxb6615015aIdx
import Derived.Test.Qxb6615015aShelf
namespace Go.Proofs.Qxb6615015a
open Go.Shelf Go.RowKit Go.Lib

set_option maxHeartbeats 400000 in
theorem isDigit_any (r : Nat) (w : World) :
    Calls Try.prog 15 #[.int .i32 (r : Int)] w fun e w' => e = .returned (.bool (decide (48 ≤ r) && decide (r ≤ 57))) ∧ w = w' := by
  by_cases h1 : 48 ≤ r <;> by_cases h2 : r ≤ 57
  all_goals
    have z1 : (48 : Int) ≤ (r : Int) ↔ 48 ≤ r := by omega
    have z2 : (r : Int) ≤ 57 ↔ r ≤ 57 := by omega
    go_enter Try.func15, Try.ntmps15
    go_wp2
    all_goals first | (exfalso; omega) | (go_ret; exact ⟨by simp [h1, h2], rfl⟩)

set_option maxHeartbeats 400000 in
theorem pred (w : World) : PredAt Try.prog 14 #[] encR notDig w := fun W r _ => by
  unfold FnGives
  have hC := fun w => isDigit_any r w
  show Calls Try.prog 14 #[.int .i32 (r : Int)] W _
  unfold notDig
  obtain ⟨q, hq⟩ : ∃ q, (decide (48 ≤ r) && decide (r ≤ 57)) = q := ⟨_, rfl⟩
  simp only [hq] at hC
  rw [hq]
  clear hq
  go_enter Try.func14, Try.ntmps14
  go_wp2_with (go_at_call 15; refine (hC _).mono ?_; rintro e w' ⟨rfl, rfl⟩)
  go_ret
  exact ⟨rfl, 0, rfl⟩

theorem contains_said : CFSaid := fun s w => by
  have hC := Any.strings_ContainsFunc Try.l17 14 #[] (enters_of Try.func14 (by kernel_rfl) rfl) _ s w (pred w)
  change Calls Try.prog 13 _ _ _ at hC
  rw [idx_digs] at hC
  exact hC

end Go.Proofs.Qxb6615015a
