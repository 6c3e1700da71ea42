/-
  zzIsLockset (7), zzCloneRoom (10), the bounds on lengths (6, 15).
-/
import Derived.Test.Qxb6605816aSets
import Derived.RegionTactic
import Derived.Deep.QuietTactic
import Derived.BigQuiet
namespace Go.Proofs.Qxb6605816a
open Go.RowKit

set_option maxHeartbeats 1000000 in
theorem isLock_some (b off c : Nat) (zs : List Int) (w : World) (hn : zs.length ≤ 1048576) (H : Lie w b off zs) :
    Calls Try.prog 7 #[.slice (some ⟨b, off, none⟩) zs.length c] w fun e w' => SomeBool e ∧ ∃ q, w' = w.drewN q := by
  obtain ⟨n, hN⟩ : ∃ n, zs.length = n := ⟨_, rfl⟩
  have HN := hide' hN
  rw [hN] at hn ⊢
  clear hN
  go_enter Try.func7, Try.ntmps7
  go_wp2
  go_loopw [3] (fun i wr => ∃ k q : Nat, k ≤ n ∧ i = .int .i64 k ∧ wr = w.drewN q) (fun i _ => n - (intOf i).toNat)
  case atStart => exact ⟨0, 0, by omega, rfl, rfl⟩
  case round =>
    obtain ⟨k, q, hk, rfl, rfl⟩ := hrel
    by_cases hlt : k < n
    · have hc1 := H.2 k (by rw [HN.out]; exact hlt)
      obtain ⟨z, hz⟩ : ∃ z, zs.getD k 0 = z := ⟨_, rfl⟩
      rw [hz] at hc1
      clear hz
      by_cases hneg : z < 0
      · go_wp2
        go_ret
        exact ⟨⟨_, rfl⟩, _, rfl⟩
      · by_cases hk0 : k = 0
        · subst hk0
          rw [Nat.add_zero] at hc1
          go_wp2
          go_quiet (fail)
          go_wp2
          go_roundw
          case rel => exact ⟨1, _, by omega, by go_num, rfl⟩
          case measure => simp [intOf]; omega
        · obtain ⟨p, rfl⟩ : ∃ p, k = p + 1 := ⟨k - 1, by omega⟩
          clear hk0
          have hc0 := H.2 p (by rw [HN.out]; omega)
          obtain ⟨y, hy⟩ : ∃ y, zs.getD p 0 = y := ⟨_, rfl⟩
          rw [hy] at hc0
          clear hy
          rw [show (((p + 1 : Nat) : Nat) : Int) = (p : Int) + 1 from by omega]
          have k1 : (0 : Int) < (p : Int) + 1 := by omega
          have k2 : (p : Int) + 1 < (n : Int) := by omega
          have k3 : (p : Int) + 1 - 1 = (p : Int) := by omega
          have k4 : (p : Int) < (n : Int) := by omega
          have k5 : ((p : Int) + 1).toNat = p + 1 := by omega
          by_cases hge : z ≤ y
          · go_wp2
            go_quiet (fail)
            go_wp2
            go_ret
            exact ⟨⟨_, rfl⟩, q + nq, by simp⟩
          · have hd : decide (z ≤ y) = false := decide_eq_false hge
            go_wp2
            go_quiet (fail)
            go_wp2
            go_roundw
            case rel => exact ⟨p + 1 + 1, _, by omega, by go_num, rfl⟩
            case measure => simp [intOf]; omega
    · go_wp2
      go_ret
      exact ⟨⟨_, rfl⟩, _, rfl⟩

set_option maxHeartbeats 400000 in
theorem isLock_empty (a : Option Addr) (c : Nat) (w : World) :
    Calls Try.prog 7 #[.slice a 0 c] w fun e w' => SomeBool e ∧ ∃ q, w' = w.drewN q := by
  go_enter Try.func7, Try.ntmps7
  go_wp2
  go_loop [3] (fun i => i = .int .i64 0) (fun _ => 0)
  case atStart => exact rfl
  case round =>
    obtain rfl := hrel
    go_wp2
    go_ret
    exact ⟨⟨_, rfl⟩, 0, rfl⟩

theorem isLock_any (A : Option Addr) (c : Nat) (zs : List Int) (w : World) (hn : zs.length ≤ 1048576) (H : IntsAt w A zs) :
    Calls Try.prog 7 #[.slice A zs.length c] w fun e w' => SomeBool e ∧ ∃ q, w' = w.drewN q := by
  rcases H with rfl | ⟨b, off, rfl, H⟩
  · exact isLock_empty A c w
  · exact isLock_some b off c zs w hn H

end Go.Proofs.Qxb6605816a
