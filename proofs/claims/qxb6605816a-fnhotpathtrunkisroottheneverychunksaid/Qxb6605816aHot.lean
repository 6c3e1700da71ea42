/-
  FnHotPathTrunkIsRootThenEveryChunk (5): the walk where chunks is a slice of known rows.
-/
import Derived.Test.Qxb6605816aState
namespace Go.Proofs.Qxb6605816a
open Go.RowKit

set_option maxRecDepth 100000 in
set_option maxHeartbeats 2000000 in
theorem hot_some (b off n c : Nat) (A : Nat → Option Addr) (C : Nat → Nat) (Z : List (List Int)) (w : World) (hn : n ≤ 9223372036854775807) (hN : Z.length = n) (hZ : ∀ j, j < n → (Z.getD j []).length ≤ 9223372036854775807) (H : RowsAt w b off A C Z) :
    Calls Try.prog 5 #[.slice (some ⟨b, off, none⟩) n c] w fun e w' => e = .returned (.bool true) ∧ Below w.heap.size w w' := by
  have h16 := hide' (bytes16_any b off n c A C Z w hn hN hZ H)
  by_cases hbig : (4096 : Int) < (n : Int)
  · clear hZ hN H
    go_enter Try.func5, Try.ntmps5
    go_wp2_with (go_at_call 16; refine h16.out.mono ?_; rintro e w' ⟨⟨z, rfl⟩, rfl⟩; cases z)
    all_goals (go_ret; exact ⟨rfl, Below.refl _ _⟩)
  have HN := hide' hN
  have HZ := hide' hZ
  have HTZ := hide' (fun k h => total_take_succ Z k h)
  have HT0 : Hid (total (Z.take 0) = 0) := by show _ = _; simp [total]
  have HTn : Hid (total (Z.take n) = total Z) := by show _ = _; rw [← hN, List.take_length]
  clear hZ hN
  go_enter Try.func5, Try.ntmps5
  go_wp2_with (go_at_call 16; refine h16.out.mono ?_; rintro e w' ⟨⟨z, rfl⟩, rfl⟩; cases z)
  · go_ret; exact ⟨rfl, Below.refl _ _⟩
  go_loop [3, 4] (fun l i => ∃ (k t : Nat), k ≤ n ∧ i = .int .i64 k ∧ l = .int .i64 (24 * (n : Int) + 8 * (t : Int)) ∧ total (Z.take k) = t ∧ 24 * n + 8 * t ≤ 1048576) (fun _ i => n - (intOf i).toNat)
  case atStart => exact ⟨0, 0, Nat.zero_le _, rfl, by go_num, HT0.out, by omega⟩
  case round =>
    obtain ⟨k, t, hk, rfl, rfl, ht, hsum⟩ := hrel
    have HT := hide' ht
    clear ht
    by_cases hlt : k < n
    · have hcell := (H.2 k (by rw [HN.out]; exact hlt)).1
      have hsz := HZ.out k hlt
      have hst := HTZ.out k (by rw [HN.out]; exact hlt)
      rw [HT.out] at hst
      have HST := hide' hst
      clear hst
      obtain ⟨x, hx⟩ : ∃ x, (Z.getD k []).length = x := ⟨_, rfl⟩
      rw [hx] at hcell hsz HST
      clear hx
      by_cases hd : (65536 : Int) < (x : Int)
      · go_wp2
        go_ret
        exact ⟨rfl, Below.refl _ _⟩
      · by_cases he : (1048576 : Int) < 24 * (n : Int) + 8 * (t : Int) + 8 * (x : Int)
        · go_wp2
          go_ret
          exact ⟨rfl, Below.refl _ _⟩
        · go_wp2
          go_round
          case rel => exact ⟨k + 1, t + x, by omega, by go_num, by go_num, HST.out, by omega⟩
          case measure => simp [intOf]; omega
    · obtain rfl : n = k := by omega
      have HTT : Hid (total Z = t) := by show _ = _; rw [← HTn.out, HT.out]
      clear HT HTn HT0 HTZ
      obtain ⟨i3, hi, hz0, hz1, hz2⟩ := info_parts Try.info3
      have tok1 : True := trivial
      go_wp2_with (first
        | (go_at_call 9; refine (sets_some b off n c A C Z w (by omega) HN.out (fun j hj => by have := len_le_total (Z := Z) (k := j) (by rw [HN.out]; exact hj); have := HTT.out; omega) H).mono ?_; rintro e w1 ⟨rfl, hcl, hb1⟩)
        | (go_at_call 17; refine (newHot_any _).mono ?_; rintro e w2 ⟨rfl, hs2, hr2, hb2⟩)
        | (at_make; refine wpList_make_own _ rfl _ _ 22 rfl w1.heap.size 3 i3 _ 1 Try.underlying22 hi hz0 hz1 _ _ _ 1 rfl rfl rfl (by rw [hz2]; omega) (by unfold maxLen; omega) hb2.size ?_; intro w3 hown3 hgr3)
        | (at_builtin; have _t := tok1; refine wpList_append_fits _ rfl (.tmp 60) (.tmp 61) 22 rfl w1.heap.size 3 i3 1 Try.underlying22 hi hz1 w2.heap.size 0 1 [] rfl (hown3.alloc _) ⟨w3.heap.size, 0, none⟩ 1 1 [.int .i64 0] rfl rfl (cell_one_new _ _ _) (by simp [Value.oneCell']) (by omega) ?_; intro w4 hown4 hgr4; clear tok1 _t))
      have hst0 := st_start hs2 hr2 hb2 hgr3 (by simpa using hown4) hgr4
      obtain ⟨A', C', HR⟩ := hcl.rows HN.out
      obtain ⟨hp, hhp⟩ : ∃ hp, hp = w1.heap.size + 2 := ⟨_, rfl⟩
      rw [← hhp] at hst0
      rw [show ((⟨w1.heap.size + 2, 0, none⟩ : Addr)) = ⟨hp, 0, none⟩ from by rw [hhp]]
      obtain ⟨g0, hg0⟩ : ∃ g0, g0 = w.heap.size := ⟨_, rfl⟩
      rw [← hg0] at HR
      rw [show ((⟨w.heap.size, 0, none⟩ : Addr)) = ⟨g0, 0, none⟩ from by rw [hg0]]
      have HST := hide' hst0
      clear hst0 hs2 hr2 hgr3 hown4 hgr4 hown3 hb2 hcl hhp hg0 H h16
      go_loopw [6, 7] (fun v i wr => ∃ (k wb cap : Nat), k ≤ n ∧ i = .int .i64 k ∧ v = .slice (some ⟨wb, 0, none⟩) (trunkTo Z k).length cap ∧ St w1 hp (trunkTo Z k) (trunkTo Z k) wb cap wr) (fun _ i _ => n - (intOf i).toNat)
      case atStart => exact ⟨0, w2.heap.size, 1, by omega, rfl, rfl, HST.out⟩
      case round =>
        obtain ⟨k, wb, cap, hk, rfl, rfl, hst⟩ := hrel
        obtain ⟨L, hL⟩ : ∃ L, (trunkTo Z k).length = L := ⟨_, rfl⟩
        have hLt : L ≤ 1 + t := by
          have h1 := trunkTo_len Z k
          have h2 := total_take_le Z k
          rw [HTT.out] at h2
          omega
        have HLL := hide' hL
        rw [hL]
        clear hL
        by_cases hlt : k < n
        · have HSUC := hide' (trunkTo_succ Z k (by rw [HN.out]; exact hlt))
          have hrow := HR.2 k (by rw [HN.out]; exact hlt)
          have hlen := len_le_total (Z := Z) (k := k) (by rw [HN.out]; exact hlt)
          rw [HTT.out] at hlen
          have HSL := hide' (trunkTo_len Z (k + 1))
          have HSL2 := hide' (total_take_le Z (k + 1))
          obtain ⟨T, hT⟩ : ∃ T, trunkTo Z k = T := ⟨_, rfl⟩
          obtain ⟨zs, hzs⟩ : ∃ zs, Z.getD k [] = zs := ⟨_, rfl⟩
          obtain ⟨x, hx⟩ : ∃ x, zs.length = x := ⟨_, rfl⟩
          rw [hT] at hst HLL HSUC
          rw [hzs] at hrow hlen HSUC
          rw [hx] at hrow hlen
          have HX := hide' hx
          obtain ⟨g, M, f, P, hgB, hne⟩ := hst.path' HLL.out
          have hc1 := (hst.below.cell (p := ⟨g0, 0 + k, none⟩) HR.1).trans hrow.1
          rw [Nat.zero_add] at hc1
          have hhp := hst.hp
          have hsrc : zs = [] ∨ ∃ b off, A' k = some ⟨b, off, none⟩ ∧ b ≠ hp ∧ b ≠ g ∧ Lie wr b off zs := by
            rcases hrow.2.2 with h | ⟨b2, off2, hA, hLie⟩
            · exact .inl h
            · have hlt2 := hLie.1
              exact .inr ⟨b2, off2, hA, by omega, by omega, hLie.later hst.below hlt2⟩
          have hC := hide' (zappend_any wr hp g M f L (C' k) x (A' k) zs T P (by have := P.len; have := HLL.out; have h1 := trunkTo_len Z k; rw [hT] at h1; omega) hx hsrc (by omega) (by omega))
          have HTR := hide' (fun w3 hT => hst.trunk (w3 := w3) (zs := zs) (L := L + x) hgB hne (by rw [List.length_append, HLL.out, HX.out]) hT)
          have HTL : Hid (T.length + zs.length = L + x) := by show _ = _; rw [HLL.out, HX.out]
          have HINT := hide' hrow.2.2
          have HCELL := hide' hrow.1
          clear hst P hsrc hrow hx hzs hT hne hgB
          go_wp2_with (go_at_call 18; refine hC.out.mono ?_; rintro e w5 ⟨rfl, hT5⟩; clear hc1 hC)
          have HS5 := hide' (HTR.out w5 hT5)
          clear hT5 HTR
          go_loopw [6, 8] (fun v j wx => ∃ (m wb cap : Nat), m ≤ x ∧ j = .int .i64 m ∧ v = .slice (some ⟨wb, 0, none⟩) (L + m) cap ∧ St w1 hp (T ++ zs) (T ++ zs.take m) wb cap wx) (fun _ j _ => x - (intOf j).toNat)
          case atStart => exact ⟨0, wb, cap, by omega, rfl, rfl, by simpa using HS5.out⟩
          case round =>
            obtain ⟨m, wb2, cap2, hm, rfl, rfl, hst⟩ := hrel
            have hc1 := (hst.below.cell (p := ⟨g0, 0 + k, none⟩) HR.1).trans HCELL.out
            rw [Nat.zero_add] at hc1
            by_cases hltm : m < x
            · obtain ⟨b2, off2, hA2, hLie2⟩ : ∃ b2 off2, A' k = some ⟨b2, off2, none⟩ ∧ Lie w1 b2 off2 zs := by
                rcases HINT.out with h | h
                · have := HX.out; rw [h] at this; simp at this; omega
                · exact h
              have hc2 := (hst.below.cell (p := ⟨b2, off2 + m, none⟩) hLie2.1).trans (hLie2.2 m (by rw [HX.out]; exact hltm))
              have HSN := hide' (take_snoc_int T zs m (by rw [HX.out]; exact hltm))
              have hTWl : (T ++ zs.take m).length = L + m := by
                rw [List.length_append, HLL.out, List.length_take, HX.out]; omega
              have hown := hst.own' hTWl
              obtain ⟨xs, hxs⟩ : ∃ xs, xs = (T ++ zs.take m).map (Value.int .i64) := ⟨_, rfl⟩
              rw [← hxs] at hown
              have HPUSH := hide' (fun w' z g' cap' ho hg ha => hst.push' (w' := w') (z := z) (g' := g') (cap' := cap') hTWl (hide' hxs) ho hg ha)
              have hbase := hst.below.size
              obtain ⟨z, hz⟩ : ∃ z, zs.getD m 0 = z := ⟨_, rfl⟩
              rw [hz] at hc2 HSN
              rw [hA2] at hc1
              clear hst hTWl hxs hz hA2 hLie2
              go_wp2_with (at_builtin; refine wpList_append_lies _ rfl (.tmp 84) (.tmp 92) 22 rfl w1.heap.size 3 i3 (.int .i64 0) 1 8 Try.underlying22 hi hz0 hz1 hz2 rfl (by decide) (.slice (some ⟨wb2, 0, none⟩) (L + m) cap2) (L + m) xs rfl (hown.alloc _) ⟨wr.heap.size, 0, none⟩ 1 1 [.int .i64 z] rfl rfl (cell_one_new _ _ _) (by simp [Value.oneCell']) (by omega) (by unfold maxLen; omega) (by omega) (by simp; omega) (wr.heap.size + 1) (by simp) ?_; intro g6 cap6 w6 hown6 hgr6 hat6 hlt6)
              have HS6 := hide' (HPUSH.out w6 z g6 cap6 hown6 hgr6 hat6)
              rw [HSN.out] at HS6
              clear HPUSH hown6 hgr6 hat6 hown
              go_wp2
              go_roundw
              case rel => exact ⟨m + 1, g6, cap6, by omega, by go_num, by rw [Nat.add_assoc], HS6.out⟩
              case measure => simp [intOf]; omega
            · obtain rfl : x = m := by omega
              rw [List.take_of_length_le (by rw [HX.out]; exact Nat.le_refl _)] at hst
              obtain ⟨g, M, f, P, hgB, hne⟩ := hst.path' (n := L + x) (by rw [List.length_append]; exact HTL.out)
              have hF := fields_any wr hp g M f (f + (L + x)) (T ++ zs) P
              have ec : ((f + (L + x) : Nat) : Int) = (f : Int) + ((L : Int) + (x : Int)) := by omega
              rw [ec] at hF
              have HF := hide' hF
              have p1 := P.eM
              have p2 := P.big
              have hfl : (f : Int) + ((L : Int) + (x : Int)) - (f : Int) = (L : Int) + (x : Int) := by omega
              have b1 : ¬ (f : Int) < 0 := by omega
              have b2 : ¬ (f : Int) + ((L : Int) + (x : Int)) < (f : Int) := by omega
              have b3 : ¬ (M : Int) < (f : Int) + ((L : Int) + (x : Int)) := by omega
              have HDR := hide' (fun q => hst.drewN q)
              clear hst P hF ec hgB hne
              go_wp2_with (go_at_call 19; refine HF.out.mono ?_; rintro e w6 ⟨rfl, q, rfl⟩)
              go_roundw
              case rel => exact ⟨k + 1, wb2, cap2, by omega, by go_num, by rw [HSUC.out, List.length_append, HTL.out], by rw [HSUC.out]; exact HDR.out _⟩
              case measure => simp [intOf]; omega
        · obtain rfl : n = k := by omega
          obtain ⟨g, M, f, P, hgB, hne⟩ := hst.path' HLL.out
          have hF := fields_any wr hp g M f (f + L) (trunkTo Z n) P
          have hK := fun q => trunkIs_any (wr.drewN q) hp g M f L wb cap (trunkTo Z n) (P.moved rfl rfl) ⟨hst.lie.1, hst.lie.2⟩
          have ec : ((f + L : Nat) : Int) = (f : Int) + (L : Int) := by omega
          rw [ec] at hF
          simp only [ec] at hK
          have HF := hide' hF
          have HK := hide' hK
          have HB := hide' (fun q => hb1.trans (((hst.drewN q).below).mono hb1.size))
          clear hst P hF hK ec hgB hne
          go_wp2_with (first
            | (go_at_call 19; refine HF.out.mono ?_; rintro e w6 ⟨rfl, q, rfl⟩)
            | (go_at_call 20; refine (HK.out q).mono ?_; rintro e w6 ⟨rfl, q2, rfl⟩))
          go_ret
          exact ⟨by simp, HB.out _⟩

end Go.Proofs.Qxb6605816a
