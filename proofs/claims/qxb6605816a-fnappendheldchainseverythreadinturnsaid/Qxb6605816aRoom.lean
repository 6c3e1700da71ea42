/-
  zzCloneRoom (10); the bounds on lengths (6, 15).
-/
import Derived.Test.Qxb6605816aSets
namespace Go.Proofs.Qxb6605816a
open Go.RowKit

theorem make_room (W : World) (l c : Int) (n m : Nat) (hl : l = (n : Int)) (hc : c = (m : Int)) (hnm : n ≤ m) (hm : m ≤ 16777216) :
    (Instr.makeSlice 22 (.int .i64 l) (.int .i64 c)).run Try.prog W = .ok (.slice (some ⟨W.heap.size, 0, none⟩) n m) (W.alloc (.cells (madeCells #[.int .i64 0] m) 3)) := by
  obtain ⟨i, hi, hz0, hz1, hz2⟩ := info_parts Try.info3
  have h := run_make (P := Try.prog) W 22 3 i _ Try.underlying22 hi hz0 .i64 .i64 l c (by omega) (by omega) (by rw [hz2]; omega) (by omega)
  rw [hz1, Nat.mul_one] at h
  rw [h, hl, hc]
  rfl

theorem own_room (W : World) (n m : Nat) (hnm : n ≤ m) (hm : m ≤ 16777216) : (W.alloc (.cells (madeCells #[.int .i64 0] m) 3)).ownsRow W.heap.size 3 1 (.slice (some ⟨W.heap.size, 0, none⟩) n m) n (List.replicate n (Value.int .i64 0)) := by
  refine ⟨by simp, .inr ⟨W.heap.size, m, madeCells #[.int .i64 0] m, rfl, Nat.le_refl _, ?_, hnm, by unfold maxLen; omega, by rw [size_madeCells]; omega, ?_⟩⟩
  · show (W.heap.push _)[W.heap.size]? = _
    simp
  · rw [toList_madeCells_one, List.take_replicate, Nat.mul_one, Nat.min_eq_left hnm]

set_option maxHeartbeats 400000 in
theorem room_nil (x : Int) (w : World) :
    Calls Try.prog 10 #[.slice none 0 0, .int .i64 x] w fun e w' => e = .returned (.slice none 0 0) ∧ w = w' := by
  have hnil := fun (W : World) (a : Option Addr) (n c n' c' : Nat) => Lib.run_eql_slice_nil (P := Try.prog) W 22 3 a n c n' c' Try.underlying22
  go_enter Try.func10, Try.ntmps10
  go_wp2
  go_ret
  exact ⟨rfl, rfl⟩

set_option maxHeartbeats 400000 in
theorem room_empty (a : Addr) (c : Nat) (x : Int) (w : World) (h0 : 0 ≤ x) (h1 : x ≤ 4194304) :
    Calls Try.prog 10 #[.slice (some a) 0 c, .int .i64 x] w fun e w' => e = .returned (.slice (some ⟨w.heap.size, 0, none⟩) 0 x.toNat) ∧ w'.ownsRow w.heap.size 3 1 (.slice (some ⟨w.heap.size, 0, none⟩) 0 x.toNat) 0 [] ∧ Below w.heap.size w w' := by
  have hnil := fun (W : World) (a : Option Addr) (n c n' c' : Nat) => Lib.run_eql_slice_nil (P := Try.prog) W 22 3 a n c n' c' Try.underlying22
  have hmk := fun W => make_room W 0 x 0 x.toNat rfl (by omega) (by omega) (by omega)
  have hx0 : ¬ x < 0 := by omega
  have HO := hide' (own_room w 0 x.toNat (by omega) (by omega))
  go_enter Try.func10, Try.ntmps10
  go_wp2
  go_loop [6] (fun i => i = .int .i64 0) (fun _ => 0)
  case atStart => exact rfl
  case round =>
    obtain rfl := hrel
    go_wp2
    go_ret
    exact ⟨rfl, HO.out, (Below.refl _ _).alloc (Nat.le_refl _) _⟩

set_option maxHeartbeats 400000 in
theorem room_some (b off c : Nat) (zs : List Int) (x : Int) (w : World) (hn : zs.length ≤ 1048576) (h0 : 0 ≤ x) (h1 : x ≤ 4194304) (H : Lie w b off zs) :
    Calls Try.prog 10 #[.slice (some ⟨b, off, none⟩) zs.length c, .int .i64 x] w fun e w' => e = .returned (.slice (some ⟨w.heap.size, 0, none⟩) zs.length (zs.length + x.toNat)) ∧ w'.ownsRow w.heap.size 3 1 (.slice (some ⟨w.heap.size, 0, none⟩) zs.length (zs.length + x.toNat)) zs.length (zs.map (Value.int .i64)) ∧ Below w.heap.size w w' := by
  have hnil := fun (W : World) (a : Option Addr) (n c n' c' : Nat) => Lib.run_eql_slice_nil (P := Try.prog) W 22 3 a n c n' c' Try.underlying22
  obtain ⟨n, hN⟩ : ∃ n, zs.length = n := ⟨_, rfl⟩
  have HN := hide' hN
  have HX := hide' (xsAt_full zs)
  rw [hN] at hn ⊢
  rw [hN] at HX
  clear hN
  obtain ⟨m, hm⟩ : ∃ m, n + x.toNat = m := ⟨_, rfl⟩
  have hmk := fun W => make_room W (n : Int) ((n : Int) + x) n m rfl (by omega) (by omega) (by omega)
  have hx0 : ¬ x < 0 := by omega
  have HO := own_room w n m (by omega) (by omega)
  have e1 : List.replicate n (Value.int .i64 0) = xsAt zs 0 := by rw [xsAt_zero, HN.out]
  rw [e1] at HO
  have hown0 := hide' HO
  rw [hm]
  clear HO e1 hm
  go_enter Try.func10, Try.ntmps10
  go_wp2
  go_loopw [6] (fun i wr => ∃ k : Nat, k ≤ n ∧ i = .int .i64 k ∧ wr.ownsRow w.heap.size 3 1 (.slice (some ⟨w.heap.size, 0, none⟩) n m) n (xsAt zs k) ∧ Below w.heap.size w wr) (fun i _ => n - (intOf i).toNat)
  case atStart => exact ⟨0, by omega, rfl, hown0.out, (Below.refl _ _).alloc (Nat.le_refl _) _⟩
  case round =>
    obtain ⟨k, hk, rfl, hown, hb⟩ := hrel
    by_cases hlt : k < n
    · have hc1 : wr.cell? ⟨b, off + k, none⟩ = some (.int .i64 (zs.getD k 0)) := (hb.cell (p := ⟨b, off + k, none⟩) H.1).trans (H.2 k (by rw [HN.out]; exact hlt))
      have hc2 : ∃ v, wr.cell? ⟨w.heap.size, k, none⟩ = some v := by
        rw [hown.cellAt k (by omega)]
        exact ⟨_, List.getElem?_eq_getElem (by have := hown.1; omega)⟩
      obtain ⟨v, hc2⟩ := hc2
      have hf := hown.frozenAt k
      have hst := hown.stored k (.int .i64 (zs.getD k 0))
      rw [xsAt_set zs k (by rw [HN.out]; exact hlt)] at hst
      have HS := hide' hst.1
      have hb' := hide' (hb.grown hst.2 hb.size (fun k hk => by cases hk; exact Nat.le_refl _))
      obtain ⟨z, hz⟩ : ∃ z, zs.getD k 0 = z := ⟨_, rfl⟩
      rw [hz] at hc1 HS hb'
      clear hst hz hown
      go_wp2
      go_roundw
      case rel => exact ⟨k + 1, by omega, by go_num, HS.out, hb'.out⟩
      case measure => simp [intOf]; omega
    · obtain rfl : n = k := by omega
      rw [HX.out] at hown
      go_wp2_with fail
      go_ret
      exact ⟨rfl, hown, hb⟩

set_option maxHeartbeats 400000 in
theorem bytes6_some (pl : Option Addr) (nl cl b off n c : Nat) (th : Int) (A : Nat → Option Addr) (C : Nat → Nat) (Z : List (List Int)) (w : World) (hnl : nl ≤ 9223372036854775807) (hn : n ≤ 9223372036854775807) (hN : Z.length = n) (hZ : ∀ j, j < n → (Z.getD j []).length ≤ 9223372036854775807) (H : RowsAt w b off A C Z) :
    Calls Try.prog 6 #[.slice pl nl cl, .int .i64 th, .slice (some ⟨b, off, none⟩) n c] w fun e w' => SomeBool e ∧ w = w' := by
  have HN := hide' hN
  have HZ := hide' hZ
  clear hN hZ
  by_cases hbl : (1048576 : Int) < (nl : Int)
  · go_enter Try.func6, Try.ntmps6
    go_wp2
    go_ret
    exact ⟨⟨_, rfl⟩, rfl⟩
  by_cases hbig : (1048576 : Int) < (n : Int)
  · go_enter Try.func6, Try.ntmps6
    go_wp2
    go_ret
    exact ⟨⟨_, rfl⟩, rfl⟩
  by_cases hbs : (1048576 : Int) < (nl : Int) + (n : Int)
  · go_enter Try.func6, Try.ntmps6
    go_wp2
    go_ret
    exact ⟨⟨_, rfl⟩, rfl⟩
  go_enter Try.func6, Try.ntmps6
  go_wp2
  go_loop [7, 8] (fun l i => ∃ (k : Nat) (z : Int), k ≤ n ∧ i = .int .i64 k ∧ l = .int .i64 z ∧ 0 ≤ z ∧ z ≤ 1048576) (fun _ i => n - (intOf i).toNat)
  case atStart => exact ⟨0, nl + n, Nat.zero_le _, rfl, rfl, by omega, by omega⟩
  case round =>
    obtain ⟨k, z, hk, rfl, rfl, hz0, hz1⟩ := hrel
    by_cases hlt : k < n
    · have hcell := (H.2 k (by rw [HN.out]; exact hlt)).1
      have hsz := HZ.out k hlt
      obtain ⟨x, hx⟩ : ∃ x, (Z.getD k []).length = x := ⟨_, rfl⟩
      rw [hx] at hcell hsz
      clear hx
      by_cases hd : (1048576 : Int) < (x : Int)
      · go_wp2
        go_ret
        exact ⟨⟨_, rfl⟩, rfl⟩
      · by_cases he : (1048576 : Int) < z + (x : Int)
        · go_wp2
          go_ret
          exact ⟨⟨_, rfl⟩, rfl⟩
        · go_wp2
          go_round
          case rel => exact ⟨k + 1, z + x, by omega, by go_num, rfl, by omega, by omega⟩
          case measure => simp [intOf]; omega
    · go_wp2
      go_ret
      exact ⟨⟨_, rfl⟩, rfl⟩

end Go.Proofs.Qxb6605816a
