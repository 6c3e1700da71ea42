/-
  The walks that only read: digitsOnly (10), everyDigits (8), stringsLeft (6), the two bounds on lengths (5, 9).
-/
import Derived.Test.Qxb6615015aRows
import Derived.Test.Qxb6615015aPlain
import Derived.WalkKit
import Derived.WalkSpells
import Derived.WalkLawsBesides
namespace Go.Proofs.Qxb6615015a
open Go.RowKit

theorem dByte_iff (c : UInt8) : dByte c = decide (48 ≤ (c.toNat : Int) ∧ (c.toNat : Int) ≤ 57) := by
  unfold dByte
  rw [Bool.eq_iff_iff]; simp; omega

theorem ret_bool {a b : Bool} (h : a = b) : Ending.returned (.bool a) = .returned (.bool b) := by rw [h]

set_option maxHeartbeats 400000 in
theorem digitsOnly_any (s : ByteArray) (w : World) (hs : s.size ≤ maxLen) :
    Calls Try.prog 10 #[.string s] w fun e w' => e = .returned (.bool (digs s)) ∧ w = w' := by
  unfold maxLen at hs
  by_cases h0 : s.size = 0
  · have hb : ((s.size : Int) == 0) = true := by simp [h0]
    have hd : digs s = false := by simp [digs, h0]
    rw [hd]
    clear h0 hd
    go_enter Try.func10, Try.ntmps10
    go_wp2
    go_ret
    exact ⟨rfl, rfl⟩
  · have hb : ((s.size : Int) == 0) = false := beq_eq_false_iff_ne.2 (by omega)
    have hpos : 0 < s.size := by omega
    have HD : Hid (digs s = pre s s.size) := by show _ = _; simp [digs, hpos]
    clear h0
    go_enter Try.func10, Try.ntmps10
    go_wp2
    go_loop [3] (fun i => ∃ k : Nat, k ≤ s.size ∧ i = .int .i64 k ∧ pre s k = true) (fun i => s.size - (intOf i).toNat)
    case atStart => exact ⟨0, Nat.zero_le _, rfl, by simp [pre]⟩
    case round =>
      obtain ⟨k, hk, rfl, hp⟩ := hrel
      by_cases hlt : k < s.size
      · have HS : Hid (pre s (k + 1) = (pre s k && dByte s[k])) := pre_succ s k hlt
        have HP : Hid (pre s k = true) := hp
        clear hp
        have HI : Hid (dByte s[k] = decide (48 ≤ (s[k].toNat : Int) ∧ (s[k].toNat : Int) ≤ 57)) := dByte_iff _
        have hbad : Hid (((s[k].toNat : Int) < 48 ∨ 57 < (s[k].toNat : Int)) → false = digs s) := fun h => by
          have h1 : pre s (k + 1) = false := by
            rw [HS.out, HI.out]
            have : decide (48 ≤ (s[k].toNat : Int) ∧ (s[k].toNat : Int) ≤ 57) = false := by simp only [decide_eq_false_iff_not]; omega
            rw [this]; simp
          rw [HD.out, pre_false h1 (by omega)]
        have hgood : Hid (¬ (s[k].toNat : Int) < 48 → ¬ 57 < (s[k].toNat : Int) → pre s (k + 1) = true) := fun h h' => by
          rw [HS.out, HI.out, HP.out]
          simp only [Bool.true_and, decide_eq_true_eq]; omega
        clear HS HI HP
        by_cases h1 : (s[k].toNat : Int) < 48
        · go_wp2
          go_ret
          exact ⟨ret_bool (hbad.out (.inl h1)), rfl⟩
        · by_cases h2 : 57 < (s[k].toNat : Int)
          · go_wp2
            go_ret
            exact ⟨ret_bool (hbad.out (.inr h2)), rfl⟩
          · go_wp2
            go_round
            case rel => exact ⟨k + 1, by omega, by go_num, hgood.out (by omega) (by omega)⟩
            case measure => simp [intOf]; omega
      · have HE : Hid (true = digs s) := by
          show _ = _
          rw [HD.out, show s.size = k from by omega, hp]
        clear hp
        go_wp2
        go_ret
        exact ⟨ret_bool HE.out, rfl⟩

/-- A row of strings in memory: n cells from (b, off) on hold the first n of ss. -/
def Lies (w : World) (b off n : Nat) (ss : List ByteArray) : Prop :=
  b < w.heap.size ∧ n ≤ ss.length ∧ (∀ j, j < n → w.cell? ⟨b, off + j, none⟩ = some (.string (ss.getD j ByteArray.empty))) ∧ ∀ x ∈ ss, x.size ≤ maxLen

theorem Lies.cell {w : World} {b off n : Nat} {ss : List ByteArray} (h : Lies w b off n ss) {j : Nat} (hj : j < n) : w.cell? ⟨b, off + j, none⟩ = some (.string (ss.getD j ByteArray.empty)) := h.2.2.1 j hj
theorem Lies.size {w : World} {b off n : Nat} {ss : List ByteArray} (h : Lies w b off n ss) {j : Nat} (hj : j < n) : (ss.getD j ByteArray.empty).size ≤ maxLen := by
  have hl : j < ss.length := Nat.lt_of_lt_of_le hj h.2.1
  rw [List.getD, List.getElem?_eq_getElem hl]
  exact h.2.2.2 _ (List.getElem_mem hl)
theorem Lies.later {w w' : World} {b off n : Nat} {ss : List ByteArray} (h : Lies w b off n ss) (hb : Below w.heap.size w w') : Lies w' b off n ss :=
  ⟨Nat.lt_of_lt_of_le h.1 hb.size, h.2.1, fun j hj => (hb.cell (p := ⟨b, off + j, none⟩) h.1).trans (h.2.2.1 j hj), h.2.2.2⟩

set_option maxHeartbeats 400000 in
theorem every_any (b off n c : Nat) (ss : List ByteArray) (w : World) (hn : n ≤ 9223372036854775807) (H : Lies w b off n ss) :
    Calls Try.prog 8 #[.slice (some ⟨b, off, none⟩) n c] w fun e w' => e = .returned (.bool (allD (ss.take n))) ∧ w = w' := by
  have hlen := H.2.1
  go_enter Try.func8, Try.ntmps8
  go_wp2
  go_loop [7] (fun i => ∃ k : Nat, k ≤ n ∧ i = .int .i64 k ∧ allD (ss.take k) = true) (fun i => n - (intOf i).toNat)
  case atStart => exact ⟨0, Nat.zero_le _, rfl, rfl⟩
  case round =>
    obtain ⟨k, hk, rfl, hp⟩ := hrel
    by_cases hlt : k < n
    · have hcell := H.cell hlt
      have hsz := H.size hlt
      have HS : Hid (allD (ss.take (k + 1)) = (allD (ss.take k) && digs (ss.getD k ByteArray.empty))) := allD_take_succ ss k (by omega)
      have HP : Hid (allD (ss.take k) = true) := hp
      clear hp
      obtain ⟨x, hx⟩ : ∃ x, ss.getD k ByteArray.empty = x := ⟨_, rfl⟩
      rw [hx] at hcell hsz HS
      have hC := fun w => digitsOnly_any x w hsz
      clear hx hsz
      by_cases hd : digs x = true
      · have HG : Hid (allD (ss.take (k + 1)) = true) := by show _ = _; rw [HS.out, HP.out, hd]; rfl
        simp only [hd] at hC
        clear hd
        go_wp2_with (go_at_call 10; refine (hC _).mono ?_; rintro e w' ⟨rfl, rfl⟩)
        go_round
        case rel => exact ⟨k + 1, by omega, by go_num, HG.out⟩
        case measure => simp [intOf]; omega
      · have hd' : digs x = false := by simpa using hd
        have HG : Hid (false = allD (ss.take n)) := by show _ = _; rw [allD_false_of_take (k := k + 1) (by rw [HS.out, hd']; simp) (by omega)]
        simp only [hd'] at hC
        clear hd hd'
        go_wp2_with (go_at_call 10; refine (hC _).mono ?_; rintro e w' ⟨rfl, rfl⟩)
        go_ret
        exact ⟨ret_bool HG.out, rfl⟩
    · have HE : Hid (true = allD (ss.take n)) := by
        show _ = _
        rw [show n = k from by omega, hp]
      clear hp
      go_wp2_with fail
      go_ret
      exact ⟨ret_bool HE.out, rfl⟩

set_option maxHeartbeats 400000 in
theorem every_none (a : Option Addr) (c : Nat) (w : World) :
    Calls Try.prog 8 #[.slice a 0 c] w fun e w' => e = .returned (.bool true) ∧ w = w' := by
  go_enter Try.func8, Try.ntmps8
  go_wp2
  go_loop [7] (fun i => i = .int .i64 0) (fun _ => 0)
  case atStart => exact rfl
  case round =>
    obtain rfl := hrel
    go_wp2
    go_ret
    exact ⟨rfl, rfl⟩

/-! ### stringsLeft: some int; memory as it was -/
def SomeInt (e : Ending) : Prop := ∃ z : Int, e = .returned (.int .i64 z)
def SomeBool (e : Ending) : Prop := ∃ z : Bool, e = .returned (.bool z)
set_option maxHeartbeats 400000 in
theorem left_any (b off n c : Nat) (ss : List ByteArray) (w : World) (B : Int) (hB0 : 0 ≤ B) (hB1 : B ≤ 1048576) (hn : n ≤ 9223372036854775807) (H : Lies w b off n ss) :
    Calls Try.prog 6 #[.slice (some ⟨b, off, none⟩) n c, .int .i64 B] w fun e w' => SomeInt e ∧ w = w' := by
  go_enter Try.func6, Try.ntmps6
  go_wp2
  go_loop [5, 11] (fun l i => ∃ (k : Nat) (z : Int), k ≤ n ∧ i = .int .i64 k ∧ l = .int .i64 z ∧ 0 ≤ z ∧ z ≤ 1048576) (fun _ i => n - (intOf i).toNat)
  case atStart => exact ⟨0, B, Nat.zero_le _, rfl, rfl, hB0, hB1⟩
  case round =>
    obtain ⟨k, z, hk, rfl, rfl, hz0, hz1⟩ := hrel
    by_cases hlt : k < n
    · have hcell := H.cell hlt
      have hsz := H.size hlt
      obtain ⟨x, hx⟩ : ∃ x, ss.getD k ByteArray.empty = x := ⟨_, rfl⟩
      rw [hx] at hcell hsz
      unfold maxLen at hsz
      clear hx
      by_cases hd : z < (x.size : Int)
      · go_wp2
        go_ret
        exact ⟨⟨_, rfl⟩, rfl⟩
      · go_wp2
        go_round
        case rel => exact ⟨k + 1, z - x.size, by omega, by go_num, rfl, by omega, by omega⟩
        case measure => simp [intOf]; omega
    · go_wp2
      go_ret
      exact ⟨⟨_, rfl⟩, rfl⟩

set_option maxHeartbeats 400000 in
theorem left_none (a : Option Addr) (c : Nat) (w : World) (B : Int) :
    Calls Try.prog 6 #[.slice a 0 c, .int .i64 B] w fun e w' => SomeInt e ∧ w = w' := by
  go_enter Try.func6, Try.ntmps6
  go_wp2
  go_loop [5, 11] (fun l i => l = .int .i64 B ∧ i = .int .i64 0) (fun _ _ => 0)
  case atStart => exact ⟨rfl, rfl⟩
  case round =>
    obtain ⟨rfl, rfl⟩ := hrel
    go_wp2
    go_ret
    exact ⟨⟨_, rfl⟩, rfl⟩

/-! ### the two bounds on lengths: some bool; memory as it was -/
set_option maxHeartbeats 400000 in
theorem bytes5_any (b off n c : Nat) (ss : List ByteArray) (w : World) (kk : Int) (hn : n ≤ 9223372036854775807) (H : Lies w b off n ss) :
    Calls Try.prog 5 #[.slice (some ⟨b, off, none⟩) n c, .int .i64 kk] w fun e w' => SomeBool e ∧ w = w' := by
  by_cases hbig : (1048576 : Int) < (n : Int)
  · go_enter Try.func5, Try.ntmps5
    go_wp2
    go_ret
    exact ⟨⟨_, rfl⟩, rfl⟩
  go_enter Try.func5, Try.ntmps5
  go_wp2
  go_loop [5, 6] (fun l i => ∃ (k : Nat) (z : Int), k ≤ n ∧ i = .int .i64 k ∧ l = .int .i64 z ∧ 0 ≤ z ∧ z ≤ 1048576) (fun _ i => n - (intOf i).toNat)
  case atStart => exact ⟨0, n, Nat.zero_le _, rfl, rfl, by omega, by omega⟩
  case round =>
    obtain ⟨k, z, hk, rfl, rfl, hz0, hz1⟩ := hrel
    by_cases hlt : k < n
    · have hcell := H.cell hlt
      have hsz := H.size hlt
      obtain ⟨x, hx⟩ : ∃ x, ss.getD k ByteArray.empty = x := ⟨_, rfl⟩
      rw [hx] at hcell hsz
      unfold maxLen at hsz
      clear hx
      by_cases hd : (1048576 : Int) < (x.size : Int)
      · go_wp2
        go_ret
        exact ⟨⟨_, rfl⟩, rfl⟩
      · by_cases he : (1048576 : Int) < z + (x.size : Int)
        · go_wp2
          go_ret
          exact ⟨⟨_, rfl⟩, rfl⟩
        · go_wp2
          go_round
          case rel => exact ⟨k + 1, z + x.size, by omega, by go_num, rfl, by omega, by omega⟩
          case measure => simp [intOf]; omega
    · go_wp2
      go_ret
      exact ⟨⟨_, rfl⟩, rfl⟩

set_option maxHeartbeats 400000 in
theorem bytes5_none (a : Option Addr) (c : Nat) (w : World) (kk : Int) :
    Calls Try.prog 5 #[.slice a 0 c, .int .i64 kk] w fun e w' => SomeBool e ∧ w = w' := by
  go_enter Try.func5, Try.ntmps5
  go_wp2
  go_loop [6] (fun i => i = .int .i64 0) (fun _ => 0)
  case atStart => exact rfl
  case round =>
    obtain rfl := hrel
    go_wp2
    go_ret
    exact ⟨⟨_, rfl⟩, rfl⟩

end Go.Proofs.Qxb6615015a
