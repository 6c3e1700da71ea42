/-
  zzBytes (5), FnNewCommandOutputOnPlainWriter (3): the walks.
-/
import Derived.Test.Qxb6605886aBuf
import Derived.LaidEql
namespace Go.Proofs.Qxb6605886a
open Go.RowKit

theorem BufAt.drewN {w : World} {bb o g cap : Nat} {s : ByteArray} (h : BufAt w bb o g cap s) (q : Nat) : BufAt (w.drewN q) bb o g cap s := ⟨h.c0, h.c1, h.le, h.bytes, h.bb_lt, h.g_lt⟩
theorem OutAt.drewN {w : World} {ob : Nat} {v : Value} (h : OutAt w ob v) (q : Nat) : OutAt (w.drewN q) ob v := ⟨h.str⟩

theorem info41 : ∃ j, Try.prog.info? 41 = some j ∧ j.size ≠ 0 := by
  refine ⟨_, rfl, ?_⟩
  decide +kernel

theorem eq_buf_same (a : Addr) (W : World) : (binOp .eql 23 (.pointer (some a)) (.pointer (some a))).run Try.prog W = .ok (.bool true) W := by
  obtain ⟨j, hj, _⟩ := info41
  have h : ∀ d : Nat, (Op.equalIn (d + 1) 23 (.pointer (some a)) (.pointer (some a))).run Try.prog W = .ok true W := fun d => by simp [Op.equalIn, run_underlying Try.underlying23, sizeOf, typeInfo, hj, run_sameAddr_same]
  simp only [binOp]
  simp [Op.equal, Op.maxDepth, h 9999]

set_option maxHeartbeats 400000 in
theorem bytes5 (s : ByteArray) (w : World) :
    Calls Try.prog 5 #[.string s] w fun e w' => (∃ z, e = .returned (.bool z)) ∧ w = w' := by
  by_cases h : (1048576 : Int) < (s.size : Int)
  · go_enter Try.func5, Try.ntmps5
    go_wp2
    go_ret
    exact ⟨⟨_, rfl⟩, rfl⟩
  · go_enter Try.func5, Try.ntmps5
    go_wp2
    all_goals (go_ret; first | exact ⟨.inr rfl, rfl⟩ | exact ⟨⟨_, rfl⟩, rfl⟩)

set_option maxHeartbeats 1000000 in
theorem on_walk (s : ByteArray) (w : World) :
    Calls Try.prog 3 #[.string s] w fun e w' => e = .returned (.bool true) ∧ Below w.heap.size w w' := by
  have hsame := eq_buf_same
  by_cases h : (1048576 : Int) < (s.size : Int)
  · go_enter Try.func3, Try.ntmps3
    go_wp2_with (go_at_call 5; refine (bytes5 s _).mono ?_; rintro e w1 ⟨⟨z, rfl⟩, rfl⟩; cases z)
    all_goals (go_ret; exact ⟨rfl, Below.refl _ _⟩)
  go_enter Try.func3, Try.ntmps3
  go_wp2_with (first
    | (go_at_call 5; refine (bytes5 s _).mono ?_; rintro e w1 ⟨⟨z, rfl⟩, rfl⟩; cases z)
    | (go_at_call 6; refine (znewBuf_any s _).mono ?_; rintro e w1 ⟨rfl, cap, hB, hb1⟩; replace hB := hide' hB; replace hb1 := hide' hb1)
    | (go_at_call 7; refine (znewOut_buf _ _).mono ?_; rintro e w2 ⟨rfl, hw2⟩; have hO := hide' (hw2 ▸ outAt_new w1 _); replace hw2 := hide' hw2))
  · go_ret; exact ⟨rfl, Below.refl _ _⟩
  have hb2 : Below w.heap.size w w2 := by rw [hw2.out]; exact hb1.out.alloc hb1.out.size _
  have hB2 : BufAt w2 (w.heap.size + 1) 0 w.heap.size cap s := by rw [hw2.out]; exact hB.out.later ((Below.refl _ _).alloc (Nat.le_refl _) _)
  have hT := hide' (fun q => ztext_any _ _ _ _ _ (hB2.drewN q))
  replace hb2 := hide' hb2
  clear hw2 hB2 hB hb1
  refine (fields_buf _ _ _ hO.out).mono ?_
  rintro e w3 ⟨rfl, q, rfl⟩
  go_wp2_with (go_at_call 9; refine (hT.out q).mono ?_; rintro e w4 ⟨rfl, q', rfl⟩)
  go_ret
  exact ⟨rfl, below_drewN hb2.out _⟩

end Go.Proofs.Qxb6605886a
