/-
  zzBytes (10), FnNewCommandOutputFreshEachCall (4): the walks.
-/
import Derived.Test.Qxb6605886aOn
namespace Go.Proofs.Qxb6605886a
open Go.RowKit

theorem info43 : ∃ j, Try.prog.info? 43 = some j ∧ j.size ≠ 0 := by
  refine ⟨_, rfl, ?_⟩
  decide +kernel

theorem eq_out_other {W : World} {a b : Nat} {v u : Value} (hab : a ≠ b) (ha : OutAt W a v) (hb : OutAt W b u) :
    (binOp .eql 25 (.pointer (some ⟨a, 0, none⟩)) (.pointer (some ⟨b, 0, none⟩))).run Try.prog W = .ok (.bool false) W := by
  obtain ⟨j, hj, hsz⟩ := info43
  have hne : (⟨a, 0, none⟩ : Addr) ≠ ⟨b, 0, none⟩ := fun h => hab (by injection h)
  have h : ∀ d : Nat, (Op.equalIn (d + 1) 25 (.pointer (some ⟨a, 0, none⟩)) (.pointer (some ⟨b, 0, none⟩))).run Try.prog W = .ok false W := fun d => by simp [Op.equalIn, run_underlying Try.underlying25, sizeOf, typeInfo, hj, hsz, run_sameAddr_other W hne ha.str hb.str]
  simp only [binOp]
  simp [Op.equal, Op.maxDepth, h 9999]

set_option maxHeartbeats 400000 in
theorem bytes10 (s : ByteArray) (w : World) :
    Calls Try.prog 10 #[.string s] w fun e w' => (∃ z, e = .returned (.bool z)) ∧ w = w' := by
  by_cases h : (1048576 : Int) < (s.size : Int)
  · go_enter Try.func10, Try.ntmps10
    go_wp2
    go_ret
    exact ⟨⟨_, rfl⟩, rfl⟩
  · go_enter Try.func10, Try.ntmps10
    go_wp2
    all_goals (go_ret; first | exact ⟨.inr rfl, rfl⟩ | exact ⟨⟨_, rfl⟩, rfl⟩)

set_option maxHeartbeats 2000000 in
set_option maxRecDepth 100000 in
theorem fresh_walk (s : ByteArray) (w : World) :
    Calls Try.prog 4 #[.string s] w fun e w' => e = .returned (.bool true) ∧ Below w.heap.size w w' := by
  have hsame := eq_buf_same
  by_cases h : (1048576 : Int) < (s.size : Int)
  · go_enter Try.func4, Try.ntmps4
    go_wp2_with (go_at_call 10; refine (bytes10 s _).mono ?_; rintro e w1 ⟨⟨z, rfl⟩, rfl⟩; cases z)
    all_goals (go_ret; exact ⟨rfl, Below.refl _ _⟩)
  go_enter Try.func4, Try.ntmps4
  go_wp2_with (first
    | (go_at_call 10; refine (bytes10 s _).mono ?_; rintro e w1 ⟨⟨z, rfl⟩, rfl⟩; cases z)
    | (go_at_call 6; refine (znewBuf_any s _).mono ?_; rintro e w1 ⟨rfl, cap, hB, hb1⟩; replace hB := hide' hB; replace hb1 := hide' hb1))
  · go_ret; exact ⟨rfl, Below.refl _ _⟩
  refine (znewOut_buf _ _).mono ?_
  rintro e w2 ⟨rfl, hw2⟩
  have hO1 : OutAt w2 w1.heap.size _ := hw2 ▸ outAt_new w1 _
  have hb2 : Below w.heap.size w w2 := by rw [hw2]; exact hb1.out.alloc hb1.out.size _
  have hB2 : BufAt w2 (w.heap.size + 1) 0 w.heap.size cap s := by rw [hw2]; exact hB.out.later ((Below.refl _ _).alloc (Nat.le_refl _) _)
  have hlt := hO1.lt
  replace hO1 := hide' hO1
  replace hb2 := hide' hb2
  replace hB2 := hide' hB2
  replace hlt := hide' hlt
  clear hw2 hB hb1
  go_wp2_with fail
  refine (znewOut_buf _ _).mono ?_
  rintro e w3 ⟨rfl, hw3⟩
  have h23 : Below w2.heap.size w2 w3 := by rw [hw3]; exact (Below.refl _ _).alloc (Nat.le_refl _) _
  have hO2 : OutAt w3 w2.heap.size _ := hw3 ▸ outAt_new w2 _
  have hO1b := hide' (hO1.out.later h23)
  have hB3 := hide' (hB2.out.later h23)
  have hb3 := hide' (hb2.out.trans (h23.mono hb2.out.size))
  replace hO2 := hide' hO2
  clear hO1 hB2 hb2 hw3 h23
  go_wp2_with fail
  refine (znewOut_nil _).mono ?_
  rintro e w4 ⟨rfl, hw4⟩
  have h34 : Below w3.heap.size w3 w4 := by rw [hw4]; exact (Below.refl _ _).alloc (Nat.le_refl _) _
  have hO3 : OutAt w4 w3.heap.size _ := hw4 ▸ outAt_new w3 _
  have hO1 := hide' (hO1b.out.later h34)
  have hO2b := hide' (hO2.out.later h34)
  have hB4 := hide' (hB3.out.later h34)
  have hb4 := hide' (hb3.out.trans (h34.mono hb3.out.size))
  replace hO3 := hide' hO3
  have hcmp := eq_out_other (Nat.ne_of_lt hlt.out) hO1.out hO2b.out
  clear hO1b hO2 hB3 hb3 hw4 h34
  have hF1 := hide' (fields_buf _ _ _ hO1.out)
  have hF2 := hide' (fun q => fields_buf _ _ _ (hO2b.out.drewN q))
  have hF3 := hide' (fun q => fields_nil _ _ (hO3.out.drewN q))
  have hT := hide' (fun q => ztext_any _ _ _ _ _ (hB4.out.drewN q))
  clear hO1 hO2b hO3 hB4
  go_wp2_with fail
  refine hF1.out.mono ?_
  rintro e w5 ⟨rfl, q1, rfl⟩
  go_wp2_with fail
  refine (hF2.out _).mono ?_
  rintro e w5 ⟨rfl, q2, rfl⟩
  go_wp2_with fail
  refine (hF3.out _).mono ?_
  rintro e w5 ⟨rfl, q3, rfl⟩
  go_wp2_with (go_at_call 9; refine (hT.out _).mono ?_; rintro e w6 ⟨rfl, q4, rfl⟩)
  go_ret
  exact ⟨rfl, below_drewN hb4.out _⟩

end Go.Proofs.Qxb6605886a
