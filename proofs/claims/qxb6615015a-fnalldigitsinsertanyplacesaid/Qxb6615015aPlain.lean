/-
  The plain law of this seat: what 'isDigits' (strings.ContainsFunc over runes) answers is what 'digitsOnly' (bytes) answers, at every string, broken UTF-8 too. No Go in sight.
-/
import Derived.Below
namespace Go.Proofs.Qxb6615015a

/-- An ASCII digit, as a byte. -/
def dByte (c : UInt8) : Bool := decide (48 ≤ c.toNat) && decide (c.toNat ≤ 57)
/-- The first k bytes are ASCII digits. -/
def pre (s : ByteArray) (k : Nat) : Bool := (s.data.toList.take k).all dByte
/-- A non-empty text of ASCII digits alone. -/
def digs (s : ByteArray) : Bool := decide (0 < s.size) && pre s s.size
/-- Every one of a list is such a text. -/
def allD (ss : List ByteArray) : Bool := ss.all digs
/-- The closure that isDigits hands to the library. -/
def notDig (r : Nat) : Bool := !(decide (48 ≤ r) && decide (r ≤ 57))

theorem get_at (s : ByteArray) (i : Nat) (h : i < s.size) : s.get! i = s[i] := by
  show s.data[i]! = s.data[i]
  rw [getElem!_pos]

theorem pre_succ (s : ByteArray) (k : Nat) (h : k < s.size) : pre s (k + 1) = (pre s k && dByte s[k]) := by
  unfold pre
  rw [List.take_succ_eq_append_getElem (by simpa using h), List.all_append]
  simp; rfl

theorem pre_mono (s : ByteArray) : ∀ (d k : Nat), pre s k = false → pre s (k + d) = false
  | 0, _, h => h
  | d + 1, k, h => by
    have ih := pre_mono s d k h
    by_cases hk : k + d < s.size
    · have := pre_succ s (k + d) hk
      rw [ih] at this
      simpa [Nat.add_assoc] using this
    · unfold pre at ih ⊢
      rw [List.take_of_length_le (by simp; omega)] at ih ⊢
      exact ih

theorem pre_false {s : ByteArray} {k : Nat} (h : pre s k = false) (hk : k ≤ s.size) : pre s s.size = false := by
  have := pre_mono s (s.size - k) k h
  rwa [show k + (s.size - k) = s.size from by omega] at this

theorem allD_take_succ (ss : List ByteArray) (k : Nat) (h : k < ss.length) : allD (ss.take (k + 1)) = (allD (ss.take k) && digs (ss.getD k ByteArray.empty)) := by
  unfold allD
  rw [List.take_succ_eq_append_getElem h, List.all_append]
  simp [h]

theorem allD_false_of_take {ss : List ByteArray} {k n : Nat} (h : allD (ss.take k) = false) (hk : k ≤ n) : allD (ss.take n) = false := by
  have : ss.take n = ss.take k ++ (ss.take n).drop k := by
    have h1 := (List.take_append_drop k (ss.take n)).symm
    rwa [List.take_take, Nat.min_eq_left hk] at h1
  unfold allD at h ⊢
  rw [this, List.all_append, h]
  rfl

theorem allD_cut (ss : List ByteArray) (k : Nat) : allD ss = (allD (ss.take k) && allD (ss.drop k)) := by
  unfold allD
  rw [← List.all_append, List.take_append_drop]

theorem allD_insert (ss : List ByteArray) (x : ByteArray) (i : Nat) : allD (ss.take i ++ (x :: ss.drop i)) = (allD ss && digs x) := by
  rw [allD_cut ss i]
  unfold allD
  rw [List.all_append, List.all_cons]
  cases (ss.take i).all digs <;> cases digs x <;> cases (ss.drop i).all digs <;> rfl

end Go.Proofs.Qxb6615015a
