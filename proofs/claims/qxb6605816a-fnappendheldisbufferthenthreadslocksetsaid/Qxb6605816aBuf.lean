/-
  FnAppendHeldIsBufferThenThreadsLockset (3): the walk.
-/
import Derived.Test.Qxb6605816aBuf0
namespace Go.Proofs.Qxb6605816a
open Go.RowKit

theorem RowsAt.cellAt {w : World} {b off : Nat} {A : Nat → Option Addr} {C : Nat → Nat} {Z : List (List Int)} (h : RowsAt w b off A C Z) {w' : World} (hb : Below w.heap.size w w') {k : Nat} (hk : k < Z.length) : w'.cell? ⟨b, off + k, none⟩ = some (.slice (A k) (Z.getD k []).length (C k)) :=
  ((h.later hb).2 k hk).1

set_option maxRecDepth 100000 in
set_option maxHeartbeats 4000000 in
theorem buf_some (pl : Option Addr) (cl b off n c : Nat) (th : Int) (lz : List Int) (A : Nat → Option Addr) (C : Nat → Nat) (Z : List (List Int)) (w : World) (hll : lz.length ≤ 9223372036854775807) (hlc : pl = none → cl = 0) (HL : IntsAt w pl lz) (hn : n ≤ 9223372036854775807) (hN : Z.length = n) (hZ : ∀ j, j < n → (Z.getD j []).length ≤ 9223372036854775807) (H : RowsAt w b off A C Z) :
    Calls Try.prog 3 #[.slice pl lz.length cl, .int .i64 th, .slice (some ⟨b, off, none⟩) n c] w fun e w' => e = .returned (.bool true) ∧ Below w.heap.size w w' := by
  have h6 := hide' (bytes6_some pl lz.length cl b off n c th A C Z w hll hn hN hZ H)
  obtain ⟨nl, hnl⟩ : ∃ nl, lz.length = nl := ⟨_, rfl⟩
  have HNL := hide' hnl
  rw [hnl] at h6 hll ⊢
  clear hnl
  have HN := hide' hN
  have HZ := hide' hZ
  have HLC := hide' hlc
  have HLI := hide' HL
  clear hZ hN hlc HL
  by_cases hbl : (65536 : Int) < (nl : Int)
  · clear H
    go_enter Try.func3, Try.ntmps3
    go_wp2_with (go_at_call 6; refine h6.out.mono ?_; rintro e w' ⟨⟨z, rfl⟩, rfl⟩; cases z)
    all_goals (go_ret; exact ⟨rfl, Below.refl _ _⟩)
  by_cases hbig : (4096 : Int) < (n : Int)
  · clear H
    go_enter Try.func3, Try.ntmps3
    go_wp2_with (go_at_call 6; refine h6.out.mono ?_; rintro e w' ⟨⟨z, rfl⟩, rfl⟩; cases z)
    all_goals (go_ret; exact ⟨rfl, Below.refl _ _⟩)
  have HTZ := hide' (fun k h => total_take_succ Z k h)
  have HT0 : Hid (total (Z.take 0) = 0) := by show _ = _; simp [total]
  have HTn : Hid (total (Z.take n) = total Z) := by show _ = _; rw [← HN.out, List.take_length]
  go_enter Try.func3, Try.ntmps3
  go_wp2_with (go_at_call 6; refine h6.out.mono ?_; rintro e w' ⟨⟨z, rfl⟩, rfl⟩; cases z)
  · go_ret; exact ⟨rfl, Below.refl _ _⟩
  go_loop [7, 8] (fun l i => ∃ (k t : Nat), k ≤ n ∧ i = .int .i64 k ∧ l = .int .i64 (8 * (nl : Int) + 24 * (n : Int) + 8 * (t : Int)) ∧ total (Z.take k) = t ∧ 8 * t ≤ 1048576) (fun _ i => n - (intOf i).toNat)
  case atStart => exact ⟨0, 0, Nat.zero_le _, rfl, by go_num, HT0.out, by omega⟩
  case round =>
    obtain ⟨k, t, hk, rfl, rfl, ht, hsum⟩ := hrel
    have HT := hide' ht
    clear ht
    by_cases hlt : k < n
    · have hcell := (H.2 k (by rw [HN.out]; exact hlt)).1
      have hsz := HZ.out k hlt
      have hst := HTZ.out k (by rw [HN.out]; exact hlt)
      rw [HT.out] at hst
      have HST := hide' hst
      clear hst
      obtain ⟨x, hx⟩ : ∃ x, (Z.getD k []).length = x := ⟨_, rfl⟩
      rw [hx] at hcell hsz HST
      clear hx
      by_cases hd : (65536 : Int) < (x : Int)
      · go_wp2
        go_ret
        exact ⟨rfl, Below.refl _ _⟩
      · by_cases he : (1048576 : Int) < 8 * (nl : Int) + 24 * (n : Int) + 8 * (t : Int) + 8 * (x : Int)
        · go_wp2
          go_ret
          exact ⟨rfl, Below.refl _ _⟩
        · go_wp2
          go_round
          case rel => exact ⟨k + 1, t + x, by omega, by go_num, by go_num, HST.out, by omega⟩
          case measure => simp [intOf]; omega
    · obtain rfl : n = k := by omega
      have HTT : Hid (total Z = t) := by show _ = _; rw [← HTn.out, HT.out]
      clear HT HTn HT0 HTZ hlt hk
      by_cases hby : (1048576 : Int) < 8 * (nl : Int) + 24 * (n : Int) + 8 * (t : Int)
      · go_wp2
        go_ret
        exact ⟨rfl, Below.refl _ _⟩
      by_cases hth0 : th < 0
      · go_wp2
        go_ret
        exact ⟨rfl, Below.refl _ _⟩
      by_cases hthn : (n : Int) ≤ th
      · go_wp2
        go_ret
        exact ⟨rfl, Below.refl _ _⟩
      obtain ⟨s, rfl⟩ := Int.eq_ofNat_of_zero_le (show 0 ≤ th by omega)
      have hsn : s < n := by omega
      go_wp2
      go_loopw [9] (fun i wr => ∃ k : Nat, k ≤ n ∧ i = .int .i64 k ∧ (∀ j, j < k → (Z.getD j []).length ≤ 32) ∧ Below w.heap.size w wr) (fun i _ => n - (intOf i).toNat)
      case atStart => exact ⟨0, by omega, rfl, fun j hj => absurd hj (by omega), Below.refl _ _⟩
      case round =>
        obtain ⟨k, hk, rfl, h32, hb⟩ := hrel
        have H32 := hide' h32
        clear h32
        by_cases hlt : k < n
        · have hrow := (H.later hb).2 k (by rw [HN.out]; exact hlt)
          have hcell := hrow.1
          have hle := len_le_total (Z := Z) (k := k) (by rw [HN.out]; exact hlt)
          rw [HTT.out] at hle
          have hC := hide' (isLock_any (A k) (C k) (Z.getD k []) wr (by omega) hrow.2.2)
          obtain ⟨x, hx⟩ : ∃ x, (Z.getD k []).length = x := ⟨_, rfl⟩
          have HX := hide' hx
          rw [hx] at hcell hle hC
          clear hx hrow
          by_cases hd : (32 : Int) < (x : Int)
          · go_wp2
            go_ret
            exact ⟨rfl, hb⟩
          · go_wp2_with (go_at_call 7; refine hC.out.mono ?_; rintro e w' ⟨⟨z, rfl⟩, q, rfl⟩; cases z)
            · go_ret
              exact ⟨rfl, below_drewN hb _⟩
            · go_roundw
              case rel => exact ⟨k + 1, by omega, by go_num, fun j hj => by
                  rcases Nat.lt_or_ge j k with h | h
                  · exact H32.out j h
                  · obtain rfl : j = k := by omega
                    rw [HX.out]; omega, below_drewN hb _⟩
              case measure => simp [intOf]; omega
        · obtain rfl : n = k := by omega
          clear hlt hk
          have hle := len_le_total (Z := Z) (k := s) (by rw [HN.out]; exact hsn)
          rw [HTT.out] at hle
          have HZT : Hid (∀ j, j < n → (Z.getD j []).length ≤ 1048576) := fun j hj => by
            have h1 := len_le_total (Z := Z) (k := j) (by rw [HN.out]; exact hj)
            rw [HTT.out] at h1
            omega
          have hC1 := clone_any pl cl lz wr (by rw [HNL.out]; omega) HLC.out (HLI.out.later hb)
          rw [HNL.out] at hC1
          have HC1 := hide' hC1
          clear hC1
          go_wp2_with fail
          refine HC1.out.mono ?_
          intro e w1 hcp
          obtain ⟨p1, c1, rfl, hI1, hb1⟩ := hcp.ints
          rw [HNL.out]
          have hbw1 := hb.trans (hb1.mono hb.size)
          have hrow1 := (H.later hbw1).2 s (by rw [HN.out]; exact hsn)
          have hcell1 := hrow1.1
          have HC2 := hide' (clone_any (A s) (C s) (Z.getD s []) w1 (by omega) hrow1.2.1.1 hrow1.2.2)
          have H32s := H32.out s hsn
          obtain ⟨zs, hzs⟩ : ∃ zs, Z.getD s [] = zs := ⟨_, rfl⟩
          obtain ⟨m, hm⟩ : ∃ m, zs.length = m := ⟨_, rfl⟩
          rw [hzs] at hcell1 HC2 hle H32s
          rw [hm] at hcell1 HC2 hle H32s
          have HZS := hide' hzs
          have HM := hide' hm
          have HI1 := hide' hI1
          clear hzs hm hcp HC1 hI1 hrow1
          go_wp2_with fail
          refine HC2.out.mono ?_
          intro e w2 hcp
          obtain ⟨p2, c2, rfl, hI2, hb2⟩ := hcp.ints
          rw [HM.out]
          have hbw2 := hbw1.trans (hb2.mono hbw1.size)
          have HI1' := hide' (HI1.out.later hb2)
          have HI2 := hide' hI2
          have HC3 := hide' (sets_some b off n c A C Z w2 (by omega) HN.out HZT.out (H.later hbw2))
          clear hcp HC2 hI2 hcell1 HI1
          go_wp2_with fail
          refine HC3.out.mono ?_
          rintro e w3 ⟨rfl, hcl, hb3⟩
          have hbw3 := hbw2.trans (hb3.mono hbw2.size)
          obtain ⟨A', C', HR3⟩ := hcl.rows HN.out
          have HJ1 := hide' (HI1'.out.later hb3)
          have HJ2 := hide' (HI2.out.later hb3)
          obtain ⟨g3, hg3⟩ : ∃ g3, g3 = w2.heap.size := ⟨_, rfl⟩
          rw [← hg3] at HR3
          rw [show ((⟨w2.heap.size, 0, none⟩ : Addr)) = ⟨g3, 0, none⟩ from by rw [hg3]]
          have hC4 := room_any pl cl lz ((m : Int) + 1) w3 (by rw [HNL.out]; omega) (by omega) (by omega) HLC.out (HLI.out.later hbw3)
          rw [HNL.out] at hC4
          have HC4 := hide' hC4
          clear hg3 hcl HC3 HI1' HI2 hC4
          go_wp2_with fail
          refine HC4.out.mono ?_
          rintro e w4 ⟨p4, cap4, rfl, hB4, hcap4, hb4⟩
          have HB4 := hide' hB4
          have HCAP := hide' hcap4
          have HC5 := hide' (newRules_any n A' C' Z w4 (by omega))
          clear hB4 hcap4 HC4
          go_wp2_with fail
          refine HC5.out.mono ?_
          rintro e w5 ⟨r, hbk, rfl, hH5, hhb, hb5⟩
          have HH5 := hide' hH5
          clear hH5 HC5
          go_wp2_with fail
          clear h6 HLC HLI HZ hb1 hb2 hb3
          go_loopw [13] (fun i wx => ∃ k : Nat, k ≤ n ∧ i = .int .i64 k ∧ HeldTo wx r hbk n A' C' Z k ∧ Below w4.heap.size w4 wx) (fun i _ => n - (intOf i).toNat)
          case atStart => exact ⟨0, by omega, rfl, HH5.out, hb5⟩
          case round =>
            obtain ⟨k, hk, rfl, hHk, hbx⟩ := hrel
            have hb3x := hb4.trans (hbx.mono hb4.size)
            by_cases hlt : k < n
            · have hcell := HR3.cellAt hb3x (k := k) (by rw [HN.out]; exact hlt)
              rw [Nat.zero_add] at hcell
              have h32 := H32.out k hlt
              by_cases hz : Z.getD k [] = []
              · have HSK := hide' (hHk.skip hz)
                rw [hz] at hcell
                simp only [List.length_nil] at hcell
                clear hz hHk h32
                go_wp2
                go_roundw
                case rel => exact ⟨k + 1, by omega, by go_num, HSK.out, hbx⟩
                case measure => simp [intOf]; omega
              · have HSET := hide' (hHk.set hlt hz)
                have hpos := List.length_pos_iff.2 hz
                have hA := hHk.later ((Below.refl _ wr).alloc (Nat.le_refl _) (.cells #[.slice (A' k) (Z.getD k []).length (C' k)] 50))
                obtain ⟨sp, hs1, hs2, _⟩ := hA.cell hlt
                have HST := hide' (setHeld_any r hbk n k (some ⟨wr.heap.size, 0, none⟩) (.pointer sp) _ hlt hA.c0 hs1 hs2)
                have hbs := hbx.size
                obtain ⟨x, hx⟩ : ∃ x, (Z.getD k []).length = x := ⟨_, rfl⟩
                rw [hx] at hcell h32 HSET hpos HST
                clear hx hz hHk hA hs1 hs2
                go_wp2_with (first
                  | (go_at_call 13; refine (newLock_any _ (A' k) x (C' k) _ rfl).mono ?_; rintro e w' ⟨rfl, rfl⟩)
                  | (go_at_call 12; refine HST.out.mono ?_; rintro e w' ⟨rfl, rfl⟩))
                go_roundw
                case rel => exact ⟨k + 1, by omega, by go_num, HSET.out, (hbx.alloc hbs _).setCell hhb _⟩
                case measure => simp [intOf]; omega
            · obtain rfl : n = k := by omega
              clear hlt hk
              have hrs := (HR3.later hb3x).2 s (by rw [HN.out]; exact hsn)
              have hAH := held_buf r hbk n s w3.heap.size cap4 p4 A' C' Z lz wr hsn hHk hrs.2.2 (H32.out s hsn) hrs.2.1.2 (HB4.out.later hbx) (by
                rcases HCAP.out with h | h
                · exact .inl h
                · right; rw [h, HNL.out, HZS.out, HM.out]; omega) (by rw [HNL.out]; omega) hb3x.size
              rw [HNL.out, HZS.out, HM.out] at hAH
              have HAH := hide' hAH
              have HRS := hide' hrs
              clear hAH hHk hrs
              go_wp2_with fail
              refine HAH.out.mono ?_
              rintro e w7 ⟨p7, cap7, rfl, hI7, hI4, hb7⟩
              have hb37 := hb3x.trans hb7
              have hbw7 := hbw3.trans (hb37.mono hbw3.size)
              have HK1 := hide' (HJ1.out.later hb37)
              have HK2 := hide' (HJ2.out.later hb37)
              have HK4 := hide' hI4
              have HK7 := hide' hI7
              have HKR := hide' (HR3.later hb37)
              clear hI4 hI7 hb7 HAH HJ1 HJ2
              go_wp2_with fail
              go_loopw [16] (fun i wx => ∃ k q : Nat, k ≤ nl ∧ i = .int .i64 k ∧ wx = w7.drewN q) (fun i _ => nl - (intOf i).toNat)
              case atStart => exact ⟨0, 0, by omega, rfl, rfl⟩
              case round =>
                obtain ⟨k, q, hk, rfl, rfl⟩ := hrel
                by_cases hlt : k < nl
                · have hne := ne_nil_of_lt HNL.out hlt
                  obtain ⟨b4, o4, rfl, hL4⟩ := ints_some HK4.out hne
                  obtain ⟨b1, o1, rfl, hL1⟩ := ints_some HK1.out hne
                  obtain ⟨b7, o7, rfl, hL7⟩ := ints_some HK7.out (by intro e; rw [List.append_eq_nil_iff] at e; exact hne e.1)
                  have q4 := hL4.2 k (by rw [HNL.out]; exact hlt)
                  have q1 := hL1.2 k (by rw [HNL.out]; exact hlt)
                  have q7 := hL7.2 k (by rw [List.length_append, HNL.out]; omega)
                  rw [getD_left lz zs k (by rw [HNL.out]; exact hlt)] at q7
                  obtain ⟨z, hz⟩ : ∃ z, lz.getD k 0 = z := ⟨_, rfl⟩
                  rw [hz] at q1 q4 q7
                  have k1 : (k : Int) < (nl : Int) := by omega
                  have k2 : (k : Int) < (nl : Int) + (m : Int) := by omega
                  clear hz hne hL4 hL1 hL7
                  go_wp2
                  go_quiet (fail)
                  go_wp2
                  go_roundw
                  case rel => exact ⟨k + 1, _, by omega, by go_num, rfl⟩
                  case measure => simp [intOf]; omega
                · obtain rfl : nl = k := by omega
                  clear hlt hk
                  go_wp2
                  go_loopw [17] (fun i wx => ∃ k q : Nat, k ≤ m ∧ i = .int .i64 k ∧ wx = w7.drewN q) (fun i _ => m - (intOf i).toNat)
                  case atStart => exact ⟨0, _, by omega, rfl, rfl⟩
                  case round =>
                    obtain ⟨k, q, hk, rfl, rfl⟩ := hrel
                    by_cases hlt : k < m
                    · have hne := ne_nil_of_lt HM.out hlt
                      obtain ⟨b2, o2, rfl, hL2⟩ := ints_some HK2.out hne
                      obtain ⟨b7, o7, rfl, hL7⟩ := ints_some HK7.out (by intro e; rw [List.append_eq_nil_iff] at e; exact hne e.2)
                      have hrs := HKR.out.2 s (by rw [HN.out]; exact hsn)
                      rw [HZS.out, HM.out, Nat.zero_add] at hrs
                      obtain ⟨b6, o6, hA6, hL6⟩ := ints_some hrs.2.2 hne
                      have qr := hrs.1
                      rw [hA6] at qr
                      have q2 := hL2.2 k (by rw [HM.out]; exact hlt)
                      have q6 := hL6.2 k (by rw [HM.out]; exact hlt)
                      have q7 := hL7.2 (nl + k) (by rw [List.length_append, HNL.out, HM.out]; omega)
                      rw [getD_right lz zs nl k HNL.out] at q7
                      obtain ⟨z, hz⟩ : ∃ z, zs.getD k 0 = z := ⟨_, rfl⟩
                      rw [hz] at q2 q6 q7
                      have k1 : (k : Int) < (m : Int) := by omega
                      have k2 : (nl : Int) + (k : Int) < (nl : Int) + (m : Int) := by omega
                      have k3 : 0 ≤ (nl : Int) + (k : Int) := by omega
                      have k4 : ((nl : Int) + (k : Int)).toNat = nl + k := by omega
                      have k5 : (s : Int) < (n : Int) := by omega
                      clear hz hne hL2 hL7 hL6 hrs hA6
                      go_wp2
                      go_quiet (fail)
                      go_wp2
                      go_roundw
                      case rel => exact ⟨k + 1, _, by omega, by go_num, rfl⟩
                      case measure => simp [intOf]; omega
                    · go_wp2
                      go_ret
                      exact ⟨rfl, below_drewN hbw7 _⟩

end Go.Proofs.Qxb6605816a
