/-
  isDigits (12), all (11), ZZallDigits (7), over what strings.ContainsFunc answers at the closure ('CFSaid': paid in Qxb6615015aShelf).
-/
import Derived.Test.Qxb6615015aReads
import Derived.Laws.Closers25b
namespace Go.Proofs.Qxb6615015a
open Go.RowKit

def CFSaid : Prop := ∀ (s : ByteArray) (w : World), Calls Try.prog 13 #[.string s, .func (.func 14) #[] #[]] w fun e w' => e = .returned (.bool (!pre s s.size)) ∧ Below w.heap.size w w'

theorem digs_nil {s : ByteArray} (h : s.toList = []) : digs s = false := by
  obtain rfl := (toList_nil_iff_emptyBytes s).1 h
  decide
theorem digs_cons {s : ByteArray} (h : ¬ s.toList = []) : digs s = pre s s.size := by
  have : 0 < s.size := by
    rcases Nat.eq_zero_or_pos s.size with h0 | h0
    · exact absurd ((toList_nil_iff_emptyBytes s).2 (ByteArray.size_eq_zero_iff.1 h0)) h
    · exact h0
  simp [digs, this]

set_option maxHeartbeats 400000 in
theorem isDigits_any (CF : CFSaid) (s : ByteArray) (w : World) :
    Calls Try.prog 12 #[.string s] w fun e w' => e = .returned (.bool (digs s)) ∧ Below w.heap.size w w' := by
  by_cases h0 : s.toList = []
  · rw [digs_nil h0]
    go_enter Try.func12, Try.ntmps12
    go_wp2_with (go_at_call 13; refine (CF s _).mono ?_; rintro e w' ⟨rfl, hb⟩)
    go_ret
    exact ⟨rfl, Below.refl _ _⟩
  · rw [digs_cons h0]
    have hC := CF s
    obtain ⟨q, hq⟩ : ∃ q, pre s s.size = q := ⟨_, rfl⟩
    rw [hq] at hC ⊢
    clear hq
    go_enter Try.func12, Try.ntmps12
    go_wp2_with (go_at_call 13; refine (hC _).mono ?_; rintro e w' ⟨rfl, hb⟩)
    go_ret
    exact ⟨ret_bool (by simp [h0]), hb⟩

set_option maxHeartbeats 400000 in
theorem all_any (CF : CFSaid) (b off n c : Nat) (ss : List ByteArray) (w : World) (hn : n ≤ 9223372036854775807) (H : Lies w b off n ss) :
    Calls Try.prog 11 #[.slice (some ⟨b, off, none⟩) n c, .func (.func 12) #[] #[]] w fun e w' => e = .returned (.bool (allD (ss.take n))) ∧ Below w.heap.size w w' := by
  have hlen := H.2.1
  go_enter Try.func11, Try.ntmps11
  go_wp2
  go_loopw [9] (fun i wr => ∃ k : Nat, k ≤ n ∧ i = .int .i64 k ∧ allD (ss.take k) = true ∧ Below w.heap.size w wr) (fun i _ => n - (intOf i).toNat)
  case atStart => exact ⟨0, Nat.zero_le _, rfl, rfl, Below.refl _ _⟩
  case round =>
    obtain ⟨k, hk, rfl, hp, hbw⟩ := hrel
    by_cases hlt : k < n
    · have H' := H.later hbw
      have hcell := H'.cell hlt
      have HS : Hid (allD (ss.take (k + 1)) = (allD (ss.take k) && digs (ss.getD k ByteArray.empty))) := allD_take_succ ss k (by omega)
      have HP : Hid (allD (ss.take k) = true) := hp
      clear hp H'
      obtain ⟨x, hx⟩ : ∃ x, ss.getD k ByteArray.empty = x := ⟨_, rfl⟩
      rw [hx] at hcell HS
      have hC := fun w => isDigits_any CF x w
      clear hx
      by_cases hd : digs x = true
      · have HG : Hid (allD (ss.take (k + 1)) = true) := by show _ = _; rw [HS.out, HP.out, hd]; rfl
        simp only [hd] at hC
        clear hd
        go_wp2_with (go_at_call 12; refine (hC _).mono ?_; rintro e w' ⟨rfl, hb1⟩)
        go_roundw
        case rel => exact ⟨k + 1, by omega, by go_num, HG.out, hbw.trans (hb1.mono hbw.size)⟩
        case measure => simp [intOf]; omega
      · have hd' : digs x = false := by simpa using hd
        have HG : Hid (false = allD (ss.take n)) := by show _ = _; rw [allD_false_of_take (k := k + 1) (by rw [HS.out, hd']; simp) (by omega)]
        simp only [hd'] at hC
        clear hd hd'
        go_wp2_with (go_at_call 12; refine (hC _).mono ?_; rintro e w' ⟨rfl, hb1⟩)
        go_ret
        exact ⟨ret_bool HG.out, hbw.trans (hb1.mono hbw.size)⟩
    · have HE : Hid (true = allD (ss.take n)) := by
        show _ = _
        rw [show n = k from by omega, hp]
      clear hp
      go_wp2_with fail
      go_ret
      exact ⟨ret_bool HE.out, hbw⟩

set_option maxHeartbeats 400000 in
theorem all_none (a : Option Addr) (c : Nat) (w : World) :
    Calls Try.prog 11 #[.slice a 0 c, .func (.func 12) #[] #[]] w fun e w' => e = .returned (.bool true) ∧ w = w' := by
  go_enter Try.func11, Try.ntmps11
  go_wp2
  go_loop [9] (fun i => i = .int .i64 0) (fun _ => 0)
  case atStart => exact rfl
  case round =>
    obtain rfl := hrel
    go_wp2
    go_ret
    exact ⟨rfl, rfl⟩

set_option maxHeartbeats 400000 in
theorem zall_any (CF : CFSaid) (b off n c : Nat) (ss : List ByteArray) (w : World) (hn : n ≤ 9223372036854775807) (H : Lies w b off n ss) :
    Calls Try.prog 7 #[.slice (some ⟨b, off, none⟩) n c] w fun e w' => e = .returned (.bool (allD (ss.take n))) ∧ Below w.heap.size w w' := by
  have hC := all_any CF b off n c ss w hn H
  obtain ⟨q, hq⟩ : ∃ q, allD (ss.take n) = q := ⟨_, rfl⟩
  rw [hq] at hC ⊢
  clear hq
  go_enter Try.func7, Try.ntmps7
  go_wp2_with (go_at_call 11; refine hC.mono ?_; rintro e w' ⟨rfl, hb1⟩)
  go_ret
  exact ⟨rfl, hb1⟩

set_option maxHeartbeats 400000 in
theorem zall_none (a : Option Addr) (c : Nat) (w : World) :
    Calls Try.prog 7 #[.slice a 0 c] w fun e w' => e = .returned (.bool true) ∧ w = w' := by
  go_enter Try.func7, Try.ntmps7
  go_wp2_with (go_at_call 11; refine (all_none _ _ _).mono ?_; rintro e w' ⟨rfl, rfl⟩)
  go_ret
  exact ⟨rfl, rfl⟩

end Go.Proofs.Qxb6615015a
