/-
  ZZhotPathFields (19), zzTrunkIs (20), the bound on lengths (16).
-/
import Derived.Test.Qxb6605816aReserve
namespace Go.Proofs.Qxb6605816a
open Go.RowKit

set_option maxHeartbeats 1000000 in
theorem fields_any (w : World) (hp g M f e : Nat) (T : List Int) (H : Path w hp g M f e T) :
    Calls Try.prog 19 #[.pointer (some ⟨hp, 0, none⟩)] w fun r w' => r = .returned (.tuple #[.slice (some ⟨g, 0, none⟩) M M, .int .i64 f, .int .i64 e, .int .i64 1, .slice none 0 0, .pointer none, .int .u64 0]) ∧ ∃ q, w' = w.drewN q := by
  have h0 := H.c0
  have h1 := H.c1
  have h2 := H.c2
  have h3 := H.c3
  have h4 := H.c4
  have h5 := H.c5
  have h6 := H.c6
  clear H
  go_enter Try.func19, Try.ntmps19
  go_wp2
  go_quiet (fail)
  go_wp2
  exact bodyPost_ret (v := .tuple #[.slice (some ⟨g, 0, none⟩) M M, .int .i64 f, .int .i64 e, .int .i64 1, .slice none 0 0, .pointer none, .int .u64 0]) (by simp [results, Try.results19]) rfl ⟨rfl, _, rfl⟩

theorem Path.cellAt {w : World} {hp g M f L : Nat} {T : List Int} (h : Path w hp g M f (f + L) T) {k : Nat} (hk : k < L) : w.cell? ⟨g, f + k, none⟩ = some (.int .i64 (T.getD k 0)) := by
  have hl := h.len
  obtain ⟨cur, hc, hcl, hT⟩ := h.row
  have heM := h.eM
  rw [cell_of_heap hc, ← hT]
  simp only [List.getElem?_toArray, List.getElem?_map, List.getD, List.getElem?_take, List.getElem?_drop]
  rw [if_pos (by omega), List.getElem?_eq_getElem (by omega)]
  rfl

set_option maxHeartbeats 1000000 in
theorem trunkIs_any (w : World) (hp g M f L wb cap : Nat) (T : List Int) (H : Path w hp g M f (f + L) T) (HW : Lie w wb 0 T) :
    Calls Try.prog 20 #[.slice (some ⟨g, 0, none⟩) M M, .int .i64 f, .int .i64 ((f + L : Nat) : Int), .slice (some ⟨wb, 0, none⟩) L cap] w fun r w' => r = .returned (.bool true) ∧ ∃ q, w' = w.drewN q := by
  have hl := H.len
  have heM := H.eM
  have hb := H.big
  have hTl : T.length = L := by omega
  have b1 : ¬ (f : Int) < 0 := by omega
  have b2 : ¬ ((f : Int) + (L : Int)) < (f : Int) := by omega
  have b3 : ¬ (M : Int) < ((f : Int) + (L : Int)) := by omega
  have b4 : (((f : Int) + (L : Int) - (f : Int)) != (L : Int)) = false := by simp; omega
  have ec : ((f + L : Nat) : Int) = (f : Int) + (L : Int) := by omega
  rw [ec]
  have HH := hide' H
  have HT := hide' hTl
  clear H hl hTl ec
  go_enter Try.func20, Try.ntmps20
  go_wp2
  go_loopw [9] (fun i wr => ∃ (k q : Nat), k ≤ L ∧ i = .int .i64 k ∧ wr = w.drewN q) (fun i _ => L - (intOf i).toNat)
  case atStart => exact ⟨0, 0, by omega, rfl, rfl⟩
  case round =>
    obtain ⟨k, q, hk, rfl, rfl⟩ := hrel
    by_cases hlt : k < L
    · have hc1 := HH.out.cellAt hlt
      have hc2 := HW.2 k (by rw [HT.out]; exact hlt)
      rw [Nat.zero_add] at hc2
      obtain ⟨z, hz⟩ : ∃ z, T.getD k 0 = z := ⟨_, rfl⟩
      rw [hz] at hc1 hc2
      clear hz
      have t1 : ((f : Int) + (k : Int)).toNat = f + k := by omega
      have k1 : (f : Int) + (k : Int) < (M : Int) := by omega
      have k2 : 0 ≤ (f : Int) + (k : Int) := by omega
      have k3 : (k : Int) < (L : Int) := by omega
      go_wp2
      go_quiet (fail)
      go_wp2
      go_roundw
      case rel => exact ⟨k + 1, _, by omega, by go_num, rfl⟩
      case measure => simp [intOf]; omega
    · go_wp2
      go_ret
      exact ⟨rfl, _, rfl⟩

set_option maxHeartbeats 400000 in
theorem bytes16_any (b off n c : Nat) (A : Nat → Option Addr) (C : Nat → Nat) (Z : List (List Int)) (w : World) (hn : n ≤ 9223372036854775807) (hN : Z.length = n) (hZ : ∀ j, j < n → (Z.getD j []).length ≤ 9223372036854775807) (H : RowsAt w b off A C Z) :
    Calls Try.prog 16 #[.slice (some ⟨b, off, none⟩) n c] w fun e w' => SomeBool e ∧ w = w' := by
  have HN := hide' hN
  have HZ := hide' hZ
  clear hN hZ
  by_cases hbig : (1048576 : Int) < (n : Int)
  · go_enter Try.func16, Try.ntmps16
    go_wp2
    go_ret
    exact ⟨⟨_, rfl⟩, rfl⟩
  go_enter Try.func16, Try.ntmps16
  go_wp2
  go_loop [3, 4] (fun l i => ∃ (k : Nat) (z : Int), k ≤ n ∧ i = .int .i64 k ∧ l = .int .i64 z ∧ 0 ≤ z ∧ z ≤ 1048576) (fun _ i => n - (intOf i).toNat)
  case atStart => exact ⟨0, n, Nat.zero_le _, rfl, rfl, by omega, by omega⟩
  case round =>
    obtain ⟨k, z, hk, rfl, rfl, hz0, hz1⟩ := hrel
    by_cases hlt : k < n
    · have hcell := (H.2 k (by rw [HN.out]; exact hlt)).1
      have hsz := HZ.out k hlt
      obtain ⟨x, hx⟩ : ∃ x, (Z.getD k []).length = x := ⟨_, rfl⟩
      rw [hx] at hcell hsz
      clear hx
      by_cases hd : (1048576 : Int) < (x : Int)
      · go_wp2
        go_ret
        exact ⟨⟨_, rfl⟩, rfl⟩
      · by_cases he : (1048576 : Int) < z + (x : Int)
        · go_wp2
          go_ret
          exact ⟨⟨_, rfl⟩, rfl⟩
        · go_wp2
          go_round
          case rel => exact ⟨k + 1, z + x, by omega, by go_num, rfl, by omega, by omega⟩
          case measure => simp [intOf]; omega
    · go_wp2
      go_ret
      exact ⟨⟨_, rfl⟩, rfl⟩

set_option maxHeartbeats 400000 in
theorem bytes16_none (a : Option Addr) (c : Nat) (w : World) :
    Calls Try.prog 16 #[.slice a 0 c] w fun e w' => SomeBool e ∧ w = w' := by
  go_enter Try.func16, Try.ntmps16
  go_wp2
  go_loop [4] (fun i => i = .int .i64 0) (fun _ => 0)
  case atStart => exact rfl
  case round =>
    obtain rfl := hrel
    go_wp2
    go_ret
    exact ⟨⟨_, rfl⟩, rfl⟩

end Go.Proofs.Qxb6605816a
