/-
  What strings.ContainsFunc over runes answers at the closure 'not an ASCII digit': the same as a look at the bytes, broken UTF-8 too.
-/
import Derived.Shelf.GgClosure.StringsIndexFunc
import Derived.Lib.DecodeN
import Derived.Test.Qxb6615015aPlain
namespace Go.Proofs.Qxb6615015a
open Go.Lib

theorem decodeN_high (n b0 b1 b2 b3 : Nat) (h : 128 ≤ b0) : 128 ≤ (decodeN n b0 b1 b2 b3).1 := by
  unfold decodeN
  rw [if_neg (by omega)]
  repeat' split
  all_goals first | (simp only []; omega) | omega

theorem idx_from (s : ByteArray) : ∀ (f pos : Nat), s.size ≤ pos + f → pos ≤ s.size → pre s pos = true → decide (0 ≤ idxFuncFrom notDig true s f pos) = !pre s s.size
  | 0, pos, hf, hp, h => by
    obtain rfl : pos = s.size := by omega
    simp [idxFuncFrom, h]
  | f + 1, pos, hf, hp, h => by
    unfold idxFuncFrom
    by_cases hlt : pos < s.size
    · rw [if_pos hlt]
      have hd := decode_at s pos
      have hg := get_at s pos hlt
      have hs := pre_succ s pos hlt
      by_cases hdig : dByte s[pos] = true
      · have hb : 48 ≤ s[pos].toNat ∧ s[pos].toNat ≤ 57 := by simpa [dByte] using hdig
        have e : Utf8.decode s pos = (s[pos].toNat, 1) := by
          rw [hd, hg]; unfold decodeN; rw [if_pos (by omega)]
        rw [e]
        have hn : notDig s[pos].toNat = false := by simp [notDig, hb]
        simp only [hn]
        simp only [Bool.false_eq_true, if_false]
        exact idx_from s f (pos + 1) (by omega) (by omega) (by rw [hs, h, hdig]; rfl)
      · have hdf : dByte s[pos] = false := by simpa using hdig
        have hn : notDig (Utf8.decode s pos).1 = true := by
          by_cases h8 : s[pos].toNat < 128
          · have e : Utf8.decode s pos = (s[pos].toNat, 1) := by
              rw [hd, hg]; unfold decodeN; rw [if_pos h8]
            rw [e]
            have hb : ¬ (48 ≤ s[pos].toNat ∧ s[pos].toNat ≤ 57) := by
              intro hh; simp [dByte, hh] at hdf
            simp only [notDig, Bool.not_eq_true', Bool.and_eq_false_iff, decide_eq_false_iff_not]
            omega
          · have := decodeN_high (s.size - pos) (s.get! pos).toNat (s.get! (pos + 1)).toNat (s.get! (pos + 2)).toNat (s.get! (pos + 3)).toNat (by rw [hg]; omega)
            rw [← hd] at this
            simp only [notDig, Bool.not_eq_true', Bool.and_eq_false_iff, decide_eq_false_iff_not]
            omega
        rw [if_pos hn]
        have : pre s (pos + 1) = false := by rw [hs, hdf]; simp
        rw [pre_false this (by omega)]
        simp
    · rw [if_neg hlt]
      obtain rfl : pos = s.size := by omega
      simp [h]

theorem idx_digs (s : ByteArray) : decide (0 ≤ idxFunc notDig true s) = !pre s s.size :=
  idx_from s s.size 0 (by omega) (by omega) (by simp [pre])

end Go.Proofs.Qxb6615015a
