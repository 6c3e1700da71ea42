/-
  zzCloneInts (8).
-/
import Derived.Test.Qxb6605816aRows
import Derived.Test.Qxb6605816aBase
import Derived.WalkKit
import Derived.WalkSpells
import Derived.WalkLawsBesides
namespace Go.Proofs.Qxb6605816a
open Go.RowKit

theorem Try.info3 : (Try.prog.info? 3).map (fun i => (i.zero, i.size, i.bytes)) = some (some (.int .i64 0), 1, 8) := by kernel_rfl

/-- The copy that zzCloneInts hands back: nil for nil, else a row of its own. -/
def Copied (w w' : World) (A : Option Addr) (zs : List Int) (e : Ending) : Prop :=
  (A = none ∧ zs = [] ∧ e = .returned (.slice none 0 0) ∧ w = w') ∨
  (e = .returned (.slice (some ⟨w.heap.size, 0, none⟩) zs.length zs.length) ∧ w'.ownsRow w.heap.size 3 1 (.slice (some ⟨w.heap.size, 0, none⟩) zs.length zs.length) zs.length (zs.map (Value.int .i64)) ∧ Below w.heap.size w w')

set_option maxHeartbeats 400000 in
theorem clone_nil (w : World) :
    Calls Try.prog 8 #[.slice none 0 0] w fun e w' => e = .returned (.slice none 0 0) ∧ w = w' := by
  have hnil := fun (W : World) (a : Option Addr) (n c n' c' : Nat) => Lib.run_eql_slice_nil (P := Try.prog) W 22 3 a n c n' c' Try.underlying22
  go_enter Try.func8, Try.ntmps8
  go_wp2
  go_ret
  exact ⟨rfl, rfl⟩

set_option maxHeartbeats 400000 in
theorem clone_empty (a : Addr) (c : Nat) (w : World) :
    Calls Try.prog 8 #[.slice (some a) 0 c] w fun e w' => e = .returned (.slice (some ⟨w.heap.size, 0, none⟩) 0 0) ∧ w'.ownsRow w.heap.size 3 1 (.slice (some ⟨w.heap.size, 0, none⟩) 0 0) 0 [] ∧ Below w.heap.size w w' := by
  obtain ⟨i, hi, hz0, hz1, hz2⟩ := info_parts Try.info3
  have hnil := fun (W : World) (a : Option Addr) (n c n' c' : Nat) => Lib.run_eql_slice_nil (P := Try.prog) W 22 3 a n c n' c' Try.underlying22
  go_enter Try.func8, Try.ntmps8
  go_wp2_with (at_make; refine wpList_make_full _ rfl _ _ 22 rfl w.heap.size 3 i _ 1 Try.underlying22 hi hz0 hz1 _ _ _ _ 0 rfl rfl rfl rfl (by omega) (by unfold maxLen; omega) (Nat.le_refl _) ?_; intro w1 hown hgr)
  have hb1 : Below w.heap.size w w1 := (Below.refl _ _).grown hgr (Nat.le_refl _) (fun k hk => by cases hk)
  have hown' : w1.ownsRow w.heap.size 3 1 (.slice (some ⟨w.heap.size, 0, none⟩) 0 0) 0 [] := by simpa [madeCells] using hown
  clear hown hgr
  go_loop [4] (fun i => i = .int .i64 0) (fun _ => 0)
  case atStart => exact rfl
  case round =>
    obtain rfl := hrel
    go_wp2
    go_ret
    exact ⟨rfl, hown', hb1⟩

set_option maxHeartbeats 400000 in
theorem clone_some (b off c : Nat) (zs : List Int) (w : World) (hn : zs.length ≤ 1048576) (H : Lie w b off zs) :
    Calls Try.prog 8 #[.slice (some ⟨b, off, none⟩) zs.length c] w fun e w' => e = .returned (.slice (some ⟨w.heap.size, 0, none⟩) zs.length zs.length) ∧ w'.ownsRow w.heap.size 3 1 (.slice (some ⟨w.heap.size, 0, none⟩) zs.length zs.length) zs.length (zs.map (Value.int .i64)) ∧ Below w.heap.size w w' := by
  obtain ⟨i, hi, hz0, hz1, hz2⟩ := info_parts Try.info3
  obtain ⟨n, hN⟩ : ∃ n, zs.length = n := ⟨_, rfl⟩
  have HN := hide' hN
  have HX := hide' (xsAt_full zs)
  rw [hN] at hn ⊢
  rw [hN] at HX
  clear hN
  have hnil := fun (W : World) (a : Option Addr) (n c n' c' : Nat) => Lib.run_eql_slice_nil (P := Try.prog) W 22 3 a n c n' c' Try.underlying22
  go_enter Try.func8, Try.ntmps8
  go_wp2_with (at_make; refine wpList_make_full _ rfl _ _ 22 rfl w.heap.size 3 i _ 1 Try.underlying22 hi hz0 hz1 _ _ _ _ n rfl rfl rfl rfl (by rw [hz2]; omega) (by unfold maxLen; omega) (Nat.le_refl _) ?_; intro w1 hown hgr)
  have hb1 : Below w.heap.size w w1 := (Below.refl _ _).grown hgr (Nat.le_refl _) (fun k hk => by cases hk)
  have hown' : w1.ownsRow w.heap.size 3 1 (.slice (some ⟨w.heap.size, 0, none⟩) n n) n (xsAt zs 0) := by
    rw [xsAt_zero, HN.out, ← toList_madeCells_one]
    simpa [Value.cells] using hown
  clear hown hgr
  go_loopw [4] (fun i wr => ∃ k : Nat, k ≤ n ∧ i = .int .i64 k ∧ wr.ownsRow w.heap.size 3 1 (.slice (some ⟨w.heap.size, 0, none⟩) n n) n (xsAt zs k) ∧ Below w.heap.size w wr) (fun i _ => n - (intOf i).toNat)
  case atStart => exact ⟨0, by omega, rfl, hown', hb1⟩
  case round =>
    obtain ⟨k, hk, rfl, hown, hb⟩ := hrel
    by_cases hlt : k < n
    · have hc1 : wr.cell? ⟨b, off + k, none⟩ = some (.int .i64 (zs.getD k 0)) := (hb.cell (p := ⟨b, off + k, none⟩) H.1).trans (H.2 k (by rw [HN.out]; exact hlt))
      have hc2 : ∃ v, wr.cell? ⟨w.heap.size, k, none⟩ = some v := by
        rw [hown.cellAt k (by omega)]
        exact ⟨_, List.getElem?_eq_getElem (by have := hown.1; omega)⟩
      obtain ⟨v, hc2⟩ := hc2
      have hf := hown.frozenAt k
      have hst := hown.stored k (.int .i64 (zs.getD k 0))
      rw [xsAt_set zs k (by rw [HN.out]; exact hlt)] at hst
      have HS := hide' hst.1
      have hb' := hide' (hb.grown hst.2 hb.size (fun k hk => by cases hk; exact Nat.le_refl _))
      obtain ⟨z, hz⟩ : ∃ z, zs.getD k 0 = z := ⟨_, rfl⟩
      rw [hz] at hc1 HS hb'
      clear hst hz hown
      go_wp2
      go_roundw
      case rel => exact ⟨k + 1, by omega, by go_num, HS.out, hb'.out⟩
      case measure => simp [intOf]; omega
    · obtain rfl : k = n := by omega
      rw [HX.out] at hown
      go_wp2_with fail
      go_ret
      exact ⟨rfl, hown, hb⟩

theorem clone_any (A : Option Addr) (C : Nat) (zs : List Int) (w : World) (hn : zs.length ≤ 1048576) (hC : A = none → C = 0) (H : IntsAt w A zs) :
    Calls Try.prog 8 #[.slice A zs.length C] w fun e w' => Copied w w' A zs e := by
  rcases H with rfl | ⟨b, off, rfl, H⟩
  · cases A with
    | none =>
      obtain rfl := hC rfl
      exact (clone_nil w).mono fun e w' ⟨he, hw⟩ => .inl ⟨rfl, rfl, he, hw⟩
    | some a => exact (clone_empty a C w).mono fun e w' h => .inr h
  · exact (clone_some b off C zs w hn H).mono fun e w' h => .inr h

end Go.Proofs.Qxb6605816a
