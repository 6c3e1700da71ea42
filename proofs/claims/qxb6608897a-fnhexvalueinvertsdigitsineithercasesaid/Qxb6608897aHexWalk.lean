/-
  The walks of FnHexValueInvertsDigitsInEitherCase and of what it calls; the plain law by a look at all 256 bytes.
-/
import Derived.Test.Qxb6608897aRows
import Derived.WalkKit
import Derived.WalkSpells
namespace Go.Proofs.Qxb6608897a
open Go.RowKit

def lowA (c : Int) : Int := if 65 ≤ c ∧ c ≤ 90 then c + 32 else c
def hexV (c : Int) : Int := if 48 ≤ c ∧ c ≤ 57 then c - 48 else if 97 ≤ lowA c ∧ lowA c ≤ 102 then lowA c - 87 else -1
def lowDig (v : Int) : Int := if v < 10 then 48 + v else 87 + v
def upDig (v : Int) : Int := if v < 10 then 48 + v else 55 + v
def wantTo (c : Int) : Nat → Int
  | 0 => -1
  | k + 1 => if c = lowDig k ∨ c = upDig k then (k : Int) else wantTo c k

theorem plain_all : ∀ c : Fin 256, hexV (c.val : Int) = wantTo (c.val : Int) 16 ∧ hexV (lowA (c.val : Int)) = hexV (c.val : Int) := by decide +kernel
theorem plain (c : Int) (h0 : 0 ≤ c) (h1 : c ≤ 255) : hexV c = wantTo c 16 ∧ hexV (lowA c) = hexV c := by
  obtain ⟨n, rfl⟩ := Int.eq_ofNat_of_zero_le h0
  exact plain_all ⟨n, by omega⟩
theorem lowA_bd (c : Int) (h0 : 0 ≤ c) (h1 : c ≤ 255) : 0 ≤ lowA c ∧ lowA c ≤ 255 := by unfold lowA; split <;> omega

theorem ret_int {k : IntKind} {a b : Int} (h : a = b) : Ending.returned (.int k a) = .returned (.int k b) := by rw [h]

set_option maxHeartbeats 400000 in
theorem low_any (c : Int) (h0 : 0 ≤ c) (h1 : c ≤ 255) (w : World) :
    Calls Try.prog 13 #[.int .u8 c] w fun e w' => e = .returned (.int .u8 (lowA c)) ∧ w' = w := by
  by_cases ha : 65 ≤ c <;> by_cases hb : c ≤ 90
  all_goals
    go_enter Try.func13, Try.ntmps13
    go_wp2
    go_ret
    exact ⟨ret_int (by unfold lowA; split <;> omega), rfl⟩

set_option maxHeartbeats 400000 in
theorem zzlow_any (c : Int) (h0 : 0 ≤ c) (h1 : c ≤ 255) (w : World) :
    Calls Try.prog 8 #[.int .u8 c] w fun e w' => e = .returned (.int .u8 (lowA c)) ∧ w' = w := by
  go_enter Try.func8, Try.ntmps8
  go_wp2_with (go_at_call 13; refine (low_any _ h0 h1 _).mono ?_; rintro e w' ⟨rfl, rfl⟩)
  go_ret
  exact ⟨rfl, rfl⟩

theorem hexV_dig {c : Int} (h0 : 48 ≤ c) (h1 : c ≤ 57) : c - 48 = hexV c := by unfold hexV; rw [if_pos ⟨h0, h1⟩]
theorem hexV_let {c l : Int} (h : ¬ (48 ≤ c ∧ c ≤ 57)) (e : Hid (lowA c = l)) (h0 : 97 ≤ l) (h1 : l ≤ 102) : l - 97 + 10 = hexV c := by
  unfold hexV; rw [if_neg h, e.out, if_pos ⟨h0, h1⟩]; omega
theorem hexV_no {c l : Int} (h : ¬ (48 ≤ c ∧ c ≤ 57)) (e : Hid (lowA c = l)) (h0 : ¬ (97 ≤ l ∧ l ≤ 102)) : -1 = hexV c := by
  unfold hexV; rw [if_neg h, e.out, if_neg h0]

set_option maxHeartbeats 400000 in
theorem hex_any (c : Int) (h0 : 0 ≤ c) (h1 : c ≤ 255) (w : World) :
    Calls Try.prog 12 #[.int .u8 c] w fun e w' => e = .returned (.int .i64 (hexV c)) ∧ w' = w := by
  have hl := lowA_bd c h0 h1
  obtain ⟨l, e⟩ : ∃ l, lowA c = l := ⟨_, rfl⟩
  have hc := fun w => low_any c h0 h1 w
  rw [e] at hl
  simp only [e] at hc
  have E : Hid (lowA c = l) := e
  clear e
  by_cases ha : 48 ≤ c <;> by_cases hb : c ≤ 57 <;> by_cases hd : 97 ≤ l <;> by_cases hf : l ≤ 102
  all_goals
    go_enter Try.func12, Try.ntmps12
    go_wp2_with (go_at_call 13; refine (hc _).mono ?_; rintro e w' ⟨rfl, rfl⟩)
    all_goals
      go_ret
      refine ⟨ret_int ?_, rfl⟩
      first | exact hexV_dig ‹_› ‹_› | exact hexV_let (by omega) E ‹_› ‹_› | exact hexV_no (by omega) E (by omega)

set_option maxHeartbeats 400000 in
theorem zzhex_any (c : Int) (h0 : 0 ≤ c) (h1 : c ≤ 255) (w : World) :
    Calls Try.prog 5 #[.int .u8 c] w fun e w' => e = .returned (.int .i64 (hexV c)) ∧ w' = w := by
  go_enter Try.func5, Try.ntmps5
  go_wp2_with (go_at_call 12; refine (hex_any _ h0 h1 _).mono ?_; rintro e w' ⟨rfl, rfl⟩)
  go_ret
  exact ⟨rfl, rfl⟩

set_option maxHeartbeats 400000 in
theorem lowDig_any (v : Int) (h0 : 0 ≤ v) (h1 : v ≤ 15) (w : World) :
    Calls Try.prog 6 #[.int .u8 v] w fun e w' => e = .returned (.int .u8 (lowDig v)) ∧ w' = w := by
  by_cases ha : v < 10
  all_goals
    go_enter Try.func6, Try.ntmps6
    go_wp2
    go_ret
    exact ⟨ret_int (by unfold lowDig; split <;> omega), rfl⟩

set_option maxHeartbeats 400000 in
theorem upDig_any (v : Int) (h0 : 0 ≤ v) (h1 : v ≤ 15) (w : World) :
    Calls Try.prog 7 #[.int .u8 v] w fun e w' => e = .returned (.int .u8 (upDig v)) ∧ w' = w := by
  by_cases ha : v < 10
  all_goals
    go_enter Try.func7, Try.ntmps7
    go_wp2
    go_ret
    exact ⟨ret_int (by unfold upDig; split <;> omega), rfl⟩

theorem dig_bd (v : Int) (h0 : 0 ≤ v) (h1 : v ≤ 15) : 0 ≤ lowDig v ∧ lowDig v ≤ 255 ∧ 0 ≤ upDig v ∧ upDig v ≤ 255 := by unfold lowDig upDig; repeat' split <;> omega

theorem want_hit (c : Int) (k : Nat) (h : c = lowDig k ∨ c = upDig k) : (k : Int) = wantTo c (k + 1) := by simp only [wantTo]; rw [if_pos h]
theorem want_miss (c : Int) (k : Nat) (h : ¬ (c = lowDig k ∨ c = upDig k)) : wantTo c k = wantTo c (k + 1) := by simp only [wantTo]; rw [if_neg h]

set_option maxHeartbeats 1000000 in
theorem law_any (c : Int) (h0 : 0 ≤ c) (h1 : c ≤ 255) (w : World) :
    Calls Try.prog 3 #[.int .u8 c] w fun e w' => e = .returned (.bool true) ∧ w' = w := by
  obtain ⟨hp1, hp2⟩ := plain c h0 h1
  have hl := lowA_bd c h0 h1
  obtain ⟨H, hH⟩ : ∃ H, hexV c = H := ⟨_, rfl⟩
  have c1 := fun w => zzhex_any c h0 h1 w
  have c2 := fun w => zzhex_any (lowA c) hl.1 hl.2 w
  have c3 := fun w => zzlow_any c h0 h1 w
  rw [hp2] at c2
  rw [hH] at c1 c2 hp1
  have HP : Hid (H = wantTo c 16) := hp1
  clear hp1 hp2 hH
  go_enter Try.func3, Try.ntmps3
  go_wp2_with (go_at_call 5; refine (c1 _).mono ?_; rintro e w' ⟨rfl, rfl⟩)
  go_loop [4, 5] (fun t i => ∃ k : Nat, k ≤ 16 ∧ i = .int .i64 k ∧ t = .int .i64 (wantTo c k)) (fun _ i => 16 - (intOf i).toNat)
  case atStart => exact ⟨0, by omega, rfl, rfl⟩
  case round =>
    obtain ⟨k, hk, rfl, rfl⟩ := hrel
    by_cases hlt : k < 16
    · have hb := dig_bd (k : Int) (by omega) (by omega)
      have d1 := fun w => lowDig_any (k : Int) (by omega) (by omega) w
      have d2 := fun w => upDig_any (k : Int) (by omega) (by omega) w
      have hit := want_hit c k
      have miss := want_miss c k
      obtain ⟨L, hL⟩ : ∃ L, lowDig (k : Int) = L := ⟨_, rfl⟩
      obtain ⟨U, hU⟩ : ∃ U, upDig (k : Int) = U := ⟨_, rfl⟩
      rw [hL, hU] at hb hit miss
      simp only [hL] at d1
      simp only [hU] at d2
      obtain ⟨W0, hW0⟩ : ∃ W0, wantTo c k = W0 := ⟨_, rfl⟩
      obtain ⟨W1, hW1⟩ : ∃ W1, wantTo c (k + 1) = W1 := ⟨_, rfl⟩
      rw [hW0, hW1] at miss
      rw [hW1] at hit
      rw [hW0]
      have HM : Hid (¬ (c = L ∨ c = U) → W0 = W1) := miss
      have HI : Hid (c = L ∨ c = U → (k : Int) = W1) := hit
      have HW : Hid (wantTo c (k + 1) = W1) := hW1
      clear miss hit hW0 hW1 hL hU
      by_cases e1 : c = L
      · have b1 : (c == L) = true := by simpa using e1
        have he := HI.out (Or.inl e1)
        have HE : Hid ((k : Int) = W1) := he
        clear e1 he
        go_wp2_with (first | (go_at_call 6; refine (d1 _).mono ?_; rintro e w' ⟨rfl, rfl⟩) | (go_at_call 7; refine (d2 _).mono ?_; rintro e w' ⟨rfl, rfl⟩))
        go_round
        case rel => exact ⟨k + 1, by omega, by go_num, by rw [HW.out, HE.out]⟩
        case measure => simp [intOf]; omega
      · have b1 : (c == L) = false := by simpa using e1
        by_cases e2 : c = U
        · have b2 : (c == U) = true := by simpa using e2
          have he := HI.out (Or.inr e2)
          have HE : Hid ((k : Int) = W1) := he
          clear e1 e2 he
          go_wp2_with (first | (go_at_call 6; refine (d1 _).mono ?_; rintro e w' ⟨rfl, rfl⟩) | (go_at_call 7; refine (d2 _).mono ?_; rintro e w' ⟨rfl, rfl⟩))
          go_round
          case rel => exact ⟨k + 1, by omega, by go_num, by rw [HW.out, HE.out]⟩
          case measure => simp [intOf]; omega
        · have b2 : (c == U) = false := by simpa using e2
          have he := HM.out (by omega)
          have HE : Hid (W0 = W1) := he
          clear e1 e2 he
          go_wp2_with (first | (go_at_call 6; refine (d1 _).mono ?_; rintro e w' ⟨rfl, rfl⟩) | (go_at_call 7; refine (d2 _).mono ?_; rintro e w' ⟨rfl, rfl⟩))
          go_round
          case rel => exact ⟨k + 1, by omega, by go_num, by rw [HW.out, HE.out]⟩
          case measure => simp [intOf]; omega
    · obtain rfl : k = 16 := by omega
      have b3 : (H == wantTo c 16) = true := by simpa using HP.out
      have HB : Hid ((H == wantTo c 16) = true) := b3
      obtain ⟨W1, hW1⟩ : ∃ W1, wantTo c 16 = W1 := ⟨_, rfl⟩
      rw [hW1] at b3 ⊢
      clear hW1
      go_wp2_with (first | (go_at_call 8; refine (c3 _).mono ?_; rintro e w' ⟨rfl, rfl⟩) | (go_at_call 5; refine (c2 _).mono ?_; rintro e w' ⟨rfl, rfl⟩))
      go_ret
      exact ⟨by simp, rfl⟩

theorem law (c : Int) (wf : (Lit.int .u8 c).wf = true) (w : World) :
    Calls Try.prog 3 #[.int .u8 c] w fun e w' => e = .returned (.bool true) ∧ Grown w w' := by
  have h1 : IntKind.u8.min = 0 := rfl
  have h2 : IntKind.u8.max = 255 := rfl
  simp only [Lit.wf, Bool.and_eq_true, decide_eq_true_eq, h1, h2] at wf
  refine (law_any c wf.1 wf.2 w).mono ?_
  rintro e w' ⟨rfl, rfl⟩
  exact ⟨rfl, Grown.refl _⟩

end Go.Proofs.Qxb6608897a
