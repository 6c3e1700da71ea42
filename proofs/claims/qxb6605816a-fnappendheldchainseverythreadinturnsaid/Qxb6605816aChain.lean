/-
  FnAppendHeldChainsEveryThreadInTurn (4): the walk.
-/
import Derived.Test.Qxb6605816aChain0
namespace Go.Proofs.Qxb6605816a
open Go.RowKit

set_option maxHeartbeats 400000 in
theorem bytes15_any (pl : Option Addr) (nl cl : Nat) (a : Option Addr) (n c : Nat) (A : Nat → Option Addr) (C : Nat → Nat) (Z : List (List Int)) (w : World) (hnl : nl ≤ 9223372036854775807) (hn : n ≤ 9223372036854775807) (hN : Z.length = n) (hZ : ∀ j, j < n → (Z.getD j []).length ≤ 9223372036854775807) (H : SetsAt w a A C Z) :
    Calls Try.prog 15 #[.slice pl nl cl, .slice a n c] w fun e w' => SomeBool e ∧ w = w' := by
  have HN := hide' hN
  have HZ := hide' hZ
  clear hN hZ
  by_cases hbl : (1048576 : Int) < (nl : Int)
  · go_enter Try.func15, Try.ntmps15
    go_wp2
    go_ret
    exact ⟨⟨_, rfl⟩, rfl⟩
  by_cases hbig : (1048576 : Int) < (n : Int)
  · go_enter Try.func15, Try.ntmps15
    go_wp2
    go_ret
    exact ⟨⟨_, rfl⟩, rfl⟩
  by_cases hbs : (1048576 : Int) < (nl : Int) + (n : Int)
  · go_enter Try.func15, Try.ntmps15
    go_wp2
    go_ret
    exact ⟨⟨_, rfl⟩, rfl⟩
  go_enter Try.func15, Try.ntmps15
  go_wp2
  go_loop [5, 6] (fun l i => ∃ (k : Nat) (z : Int), k ≤ n ∧ i = .int .i64 k ∧ l = .int .i64 z ∧ 0 ≤ z ∧ z ≤ 1048576) (fun _ i => n - (intOf i).toNat)
  case atStart => exact ⟨0, nl + n, Nat.zero_le _, rfl, rfl, by omega, by omega⟩
  case round =>
    obtain ⟨k, z, hk, rfl, rfl, hz0, hz1⟩ := hrel
    by_cases hlt : k < n
    · obtain ⟨b, off, rfl, HR⟩ := H.some HN.out hlt
      have hcell := (HR.2 k (by rw [HN.out]; exact hlt)).1
      have hsz := HZ.out k hlt
      obtain ⟨x, hx⟩ : ∃ x, (Z.getD k []).length = x := ⟨_, rfl⟩
      rw [hx] at hcell hsz
      clear hx
      by_cases hd : (1048576 : Int) < (x : Int)
      · go_wp2
        go_ret
        exact ⟨⟨_, rfl⟩, rfl⟩
      · by_cases he : (1048576 : Int) < z + (x : Int)
        · go_wp2
          go_ret
          exact ⟨⟨_, rfl⟩, rfl⟩
        · go_wp2
          go_round
          case rel => exact ⟨k + 1, z + x, by omega, by go_num, rfl, by omega, by omega⟩
          case measure => simp [intOf]; omega
    · go_wp2
      go_ret
      exact ⟨⟨_, rfl⟩, rfl⟩

set_option maxRecDepth 100000 in
set_option maxHeartbeats 4000000 in
theorem chain_all (pl : Option Addr) (cl : Nat) (a : Option Addr) (n c : Nat) (lz : List Int) (A : Nat → Option Addr) (C : Nat → Nat) (Z : List (List Int)) (w : World) (hll : lz.length ≤ 9223372036854775807) (hlc : pl = none → cl = 0) (HL : IntsAt w pl lz) (hn : n ≤ 9223372036854775807) (hN : Z.length = n) (hZ : ∀ j, j < n → (Z.getD j []).length ≤ 9223372036854775807) (hsc : a = none → c = 0) (H : SetsAt w a A C Z) :
    Calls Try.prog 4 #[.slice pl lz.length cl, .slice a n c] w fun e w' => e = .returned (.bool true) ∧ Below w.heap.size w w' := by
  have h15 := hide' (bytes15_any pl lz.length cl a n c A C Z w hll hn hN hZ H)
  obtain ⟨nl, hnl⟩ : ∃ nl, lz.length = nl := ⟨_, rfl⟩
  have HNL := hide' hnl
  rw [hnl] at h15 hll ⊢
  clear hnl
  have HN := hide' hN
  have HZ := hide' hZ
  have HLC := hide' hlc
  have HLI := hide' HL
  have HSC := hide' hsc
  clear hZ hN hlc HL hsc
  by_cases hbl : (65536 : Int) < (nl : Int)
  · clear H
    go_enter Try.func4, Try.ntmps4
    go_wp2_with (go_at_call 15; refine h15.out.mono ?_; rintro e w' ⟨⟨z, rfl⟩, rfl⟩; cases z)
    all_goals (go_ret; exact ⟨rfl, Below.refl _ _⟩)
  by_cases hbig : (4096 : Int) < (n : Int)
  · clear H
    go_enter Try.func4, Try.ntmps4
    go_wp2_with (go_at_call 15; refine h15.out.mono ?_; rintro e w' ⟨⟨z, rfl⟩, rfl⟩; cases z)
    all_goals (go_ret; exact ⟨rfl, Below.refl _ _⟩)
  have HTZ := hide' (fun k h => total_take_succ Z k h)
  have HT0 : Hid (total (Z.take 0) = 0) := by show _ = _; simp [total]
  have HTn : Hid (total (Z.take n) = total Z) := by show _ = _; rw [← HN.out, List.take_length]
  go_enter Try.func4, Try.ntmps4
  go_wp2_with (go_at_call 15; refine h15.out.mono ?_; rintro e w' ⟨⟨z, rfl⟩, rfl⟩; cases z)
  · go_ret; exact ⟨rfl, Below.refl _ _⟩
  go_loop [5, 6] (fun l i => ∃ (k t : Nat), k ≤ n ∧ i = .int .i64 k ∧ l = .int .i64 (8 * (nl : Int) + 24 * (n : Int) + 8 * (t : Int)) ∧ total (Z.take k) = t ∧ 8 * t ≤ 1048576) (fun _ i => n - (intOf i).toNat)
  case atStart => exact ⟨0, 0, Nat.zero_le _, rfl, by go_num, HT0.out, by omega⟩
  case round =>
    obtain ⟨k, t, hk, rfl, rfl, ht, hsum⟩ := hrel
    have HT := hide' ht
    clear ht
    by_cases hlt : k < n
    · obtain ⟨b, off, rfl, HR⟩ := H.some HN.out hlt
      have hcell := (HR.2 k (by rw [HN.out]; exact hlt)).1
      have hsz := HZ.out k hlt
      have hst := HTZ.out k (by rw [HN.out]; exact hlt)
      rw [HT.out] at hst
      have HST := hide' hst
      clear hst HR
      obtain ⟨x, hx⟩ : ∃ x, (Z.getD k []).length = x := ⟨_, rfl⟩
      rw [hx] at hcell hsz HST
      clear hx
      by_cases hd : (65536 : Int) < (x : Int)
      · go_wp2
        go_ret
        exact ⟨rfl, Below.refl _ _⟩
      · by_cases he : (1048576 : Int) < 8 * (nl : Int) + 24 * (n : Int) + 8 * (t : Int) + 8 * (x : Int)
        · go_wp2
          go_ret
          exact ⟨rfl, Below.refl _ _⟩
        · go_wp2
          go_round
          case rel => exact ⟨k + 1, t + x, by omega, by go_num, by go_num, HST.out, by omega⟩
          case measure => simp [intOf]; omega
    · obtain rfl : n = k := by omega
      have HTT : Hid (total Z = t) := by show _ = _; rw [← HTn.out, HT.out]
      clear HT hlt hk
      by_cases hby : (1048576 : Int) < 8 * (nl : Int) + 24 * (n : Int) + 8 * (t : Int)
      · go_wp2
        go_ret
        exact ⟨rfl, Below.refl _ _⟩
      go_wp2
      go_loopw [7] (fun i wr => ∃ k : Nat, k ≤ n ∧ i = .int .i64 k ∧ (∀ j, j < k → (Z.getD j []).length ≤ 32) ∧ Below w.heap.size w wr) (fun i _ => n - (intOf i).toNat)
      case atStart => exact ⟨0, by omega, rfl, fun j hj => absurd hj (by omega), Below.refl _ _⟩
      case round =>
        obtain ⟨k, hk, rfl, h32, hb⟩ := hrel
        have H32 := hide' h32
        clear h32
        by_cases hlt : k < n
        · obtain ⟨b, off, rfl, HR⟩ := H.some HN.out hlt
          have hrow := (HR.later hb).2 k (by rw [HN.out]; exact hlt)
          have hcell := hrow.1
          have hle := len_le_total (Z := Z) (k := k) (by rw [HN.out]; exact hlt)
          rw [HTT.out] at hle
          have hC := hide' (isLock_any (A k) (C k) (Z.getD k []) wr (by omega) hrow.2.2)
          obtain ⟨x, hx⟩ : ∃ x, (Z.getD k []).length = x := ⟨_, rfl⟩
          have HX := hide' hx
          rw [hx] at hcell hle hC
          clear hx hrow HR
          by_cases hd : (32 : Int) < (x : Int)
          · go_wp2
            go_ret
            exact ⟨rfl, hb⟩
          · go_wp2_with (go_at_call 7; refine hC.out.mono ?_; rintro e w' ⟨⟨z, rfl⟩, q, rfl⟩; cases z)
            · go_ret
              exact ⟨rfl, below_drewN hb _⟩
            · go_roundw
              case rel => exact ⟨k + 1, by omega, by go_num, fun j hj => by
                  rcases Nat.lt_or_ge j k with h | h
                  · exact H32.out j h
                  · obtain rfl : j = k := by omega
                    rw [HX.out]; omega, below_drewN hb _⟩
              case measure => simp [intOf]; omega
        · obtain rfl : n = k := by omega
          clear hlt hk
          have HZT : Hid (∀ j, j < n → (Z.getD j []).length ≤ 1048576) := fun j hj => by
            have h1 := len_le_total (Z := Z) (k := j) (by rw [HN.out]; exact hj)
            rw [HTT.out] at h1
            omega
          have hC1 := clone_any pl cl lz wr (by rw [HNL.out]; omega) HLC.out (HLI.out.later hb)
          rw [HNL.out] at hC1
          have HC1 := hide' hC1
          clear hC1
          go_wp2_with fail
          refine HC1.out.mono ?_
          intro e w1 hcp
          obtain ⟨p1, c1, rfl, hI1, hb1⟩ := hcp.ints
          rw [HNL.out]
          have hbw1 := hb.trans (hb1.mono hb.size)
          have HI1 := hide' hI1
          have HC2 := hide' (sets_any a n c A C Z w1 (by omega) HN.out HZT.out HSC.out (H.later hbw1))
          clear hcp HC1 hI1
          go_wp2_with fail
          refine HC2.out.mono ?_
          rintro e w2 ⟨a2, A2, C2, rfl, hS2, hb2⟩
          have hbw2 := hbw1.trans (hb2.mono hbw1.size)
          have HI1' := hide' (HI1.out.later hb2)
          have HS2 := hide' hS2
          have HC3 := hide' (sets_any a n c A C Z w2 (by omega) HN.out HZT.out HSC.out (H.later hbw2))
          clear HC2 hS2 HI1
          go_wp2_with fail
          refine HC3.out.mono ?_
          rintro e w4 ⟨a3, A3, C3, rfl, hS3, hb3⟩
          have hbw4 := hbw2.trans (hb3.mono hbw2.size)
          have HJ1 := hide' (HI1'.out.later hb3)
          have HJ2 := hide' (HS2.out.later hb3)
          have HJ3 := hide' hS3
          clear HC3 hS3 HI1' HS2
          go_wp2_with fail
          clear h15 HZ hb1 hb2 hb3
          have HLE := hide' (fun k => total_take_le Z k)
          rw [HTT.out] at HLE
          go_loop [10, 11] (fun l i => ∃ (k t' : Nat), k ≤ n ∧ i = .int .i64 k ∧ l = .int .i64 ((nl : Int) + (t' : Int)) ∧ total (Z.take k) = t' ∧ t' ≤ t) (fun _ i => n - (intOf i).toNat)
          case atStart => exact ⟨0, 0, Nat.zero_le _, rfl, by go_num, HT0.out, by omega⟩
          case round =>
            obtain ⟨k, t', hk, rfl, rfl, ht', hsum'⟩ := hrel
            have HT' := hide' ht'
            clear ht'
            by_cases hlt : k < n
            · obtain ⟨b2, o2, rfl, HR⟩ := HJ2.out.some HN.out hlt
              have hcell := (HR.2 k (by rw [HN.out]; exact hlt)).1
              have hst := HTZ.out k (by rw [HN.out]; exact hlt)
              have hle := HLE.out (k + 1)
              rw [HT'.out] at hst
              rw [hst] at hle
              have HST := hide' hst
              clear hst HR
              obtain ⟨x, hx⟩ : ∃ x, (Z.getD k []).length = x := ⟨_, rfl⟩
              rw [hx] at hcell hle HST
              clear hx
              go_wp2
              go_round
              case rel => exact ⟨k + 1, t' + x, by omega, by go_num, by go_num, HST.out, hle⟩
              case measure => simp [intOf]; omega
            · obtain rfl : n = k := by omega
              obtain rfl : t = t' := by rw [← HTT.out, ← HTn.out, HT'.out]
              clear HT' hlt hk hsum'
              have hr1 : (nl : Int) + (t : Int) - (nl : Int) = (t : Int) := by omega
              have hC4 := room_any pl cl lz ((t : Int) + 8) w4 (by rw [HNL.out]; omega) (by omega) (by omega) HLC.out (HLI.out.later hbw4)
              rw [HNL.out] at hC4
              have HC4 := hide' hC4
              clear hC4
              go_wp2_with fail
              refine HC4.out.mono ?_
              rintro e w5 ⟨p4, cap4, rfl, hB4, hcap4, hb45⟩
              have HB4 := hide' hB4
              have HCAP := hide' hcap4
              have HC5 := hide' (newRules_any n A3 C3 Z w5 (by omega))
              clear hB4 hcap4 HC4 hr1
              go_wp2_with fail
              refine HC5.out.mono ?_
              rintro e w6 ⟨r, hbk, rfl, hH6, hhb, hb6⟩
              have HH6 := hide' hH6
              clear hH6 HC5
              go_wp2_with fail
              go_loopw [13] (fun i wx => ∃ k : Nat, k ≤ n ∧ i = .int .i64 k ∧ HeldTo wx r hbk n A3 C3 Z k ∧ Below w5.heap.size w5 wx) (fun i _ => n - (intOf i).toNat)
              case atStart => exact ⟨0, by omega, rfl, HH6.out, hb6⟩
              case round =>
                obtain ⟨k, hk, rfl, hHk, hbx⟩ := hrel
                by_cases hlt : k < n
                · obtain ⟨b3, o3, rfl, HR⟩ := HJ3.out.some HN.out hlt
                  have hcell := ((HR.later (hb45.trans (hbx.mono hb45.size))).2 k (by rw [HN.out]; exact hlt)).1
                  have h32 := H32.out k hlt
                  clear HR
                  by_cases hz : Z.getD k [] = []
                  · have HSK := hide' (hHk.skip hz)
                    rw [hz] at hcell
                    simp only [List.length_nil] at hcell
                    clear hz hHk h32
                    go_wp2
                    go_roundw
                    case rel => exact ⟨k + 1, by omega, by go_num, HSK.out, hbx⟩
                    case measure => simp [intOf]; omega
                  · have HSET := hide' (hHk.set hlt hz)
                    have hpos := List.length_pos_iff.2 hz
                    have hA := hHk.later ((Below.refl _ wr).alloc (Nat.le_refl _) (.cells #[.slice (A3 k) (Z.getD k []).length (C3 k)] 50))
                    obtain ⟨sp, hs1, hs2, _⟩ := hA.cell hlt
                    have HST := hide' (setHeld_any r hbk n k (some ⟨wr.heap.size, 0, none⟩) (.pointer sp) _ hlt hA.c0 hs1 hs2)
                    have hbs := hbx.size
                    obtain ⟨x, hx⟩ : ∃ x, (Z.getD k []).length = x := ⟨_, rfl⟩
                    rw [hx] at hcell h32 HSET hpos HST
                    clear hx hz hHk hA hs1 hs2
                    go_wp2_with (first
                      | (go_at_call 13; refine (newLock_any _ (A3 k) x (C3 k) _ rfl).mono ?_; rintro e w' ⟨rfl, rfl⟩)
                      | (go_at_call 12; refine HST.out.mono ?_; rintro e w' ⟨rfl, rfl⟩))
                    go_roundw
                    case rel => exact ⟨k + 1, by omega, by go_num, HSET.out, (hbx.alloc hbs _).setCell hhb _⟩
                    case measure => simp [intOf]; omega
                · obtain rfl : n = k := by omega
                  clear hlt hk
                  have HST := hide' (chain_start HB4.out hb45 hbx hHk)
                  have HBsz : Hid (w4.heap.size ≤ wr.heap.size) := Nat.le_trans hb45.size hbx.size
                  obtain ⟨B, hB⟩ : ∃ B, wr.heap.size = B := ⟨_, rfl⟩
                  rw [hB] at HST HBsz
                  clear hB hHk
                  have HL0 : Hid ((accTo lz Z 0).length = nl) := by show _ = _; rw [accTo_zero, HNL.out]
                  have HLn : Hid ((accTo lz Z n).length = nl + t) := by show _ = _; rw [accTo_len, HNL.out, HTn.out, HTT.out]
                  have HSTEP : Hid (∀ w k p cap, k < n → Chain w4 B w4.heap.size cap4 r hbk n p4 A3 C3 Z lz k p cap w → Calls Try.prog 14 #[.pointer (some ⟨r, 0, none⟩), .slice p (accTo lz Z k).length cap, .int .i64 k] w fun e w' =>
                      ∃ p' cap', e = .returned (.slice p' (accTo lz Z (k + 1)).length cap') ∧ Chain w4 B w4.heap.size cap4 r hbk n p4 A3 C3 Z lz (k + 1) p' cap' w') := fun w k p cap hk hc => by
                    refine chain_step hc HN.out hk HBsz.out HJ3.out H32.out ?_ (by rw [HNL.out, HTT.out]; omega)
                    rcases HCAP.out with h | h
                    · exact .inl h
                    · right; rw [h, HNL.out, HTT.out]; omega
                  go_wp2_with fail
                  clear hbx hb6 hhb HH6 HB4 HCAP
                  go_loopw [14, 15] (fun v i wx => ∃ (k : Nat) (p : Option Addr) (cap : Nat), k ≤ n ∧ i = .int .i64 k ∧ v = .slice p (accTo lz Z k).length cap ∧ Chain w4 B w4.heap.size cap4 r hbk n p4 A3 C3 Z lz k p cap wx) (fun _ i _ => n - (intOf i).toNat)
                  case atStart => exact ⟨0, p4, cap4, by omega, rfl, by rw [HL0.out], HST.out⟩
                  case round =>
                    obtain ⟨k, p, cap, hk, rfl, rfl, hch⟩ := hrel
                    by_cases hlt : k < n
                    · have HC := hide' (HSTEP.out wr k p cap hlt hch)
                      clear hch
                      go_wp2_with (go_at_call 14; refine HC.out.mono ?_; rintro e w7 ⟨p', cap', rfl, hch'⟩)
                      go_roundw
                      case rel => exact ⟨k + 1, p', cap', by omega, by go_num, rfl, hch'⟩
                      case measure => simp [intOf]; omega
                    · obtain rfl : n = k := by omega
                      clear hlt hk
                      rw [HLn.out]
                      obtain ⟨hI7, hI4⟩ := hch.acc
                      rw [accTo_full lz Z n HN.out] at hI7
                      have hb4 := hch.below
                      have hbw7 := hbw4.trans (hb4.mono hbw4.size)
                      have HK1 := hide' (HJ1.out.later hb4)
                      have HK2 := hide' (HJ2.out.later hb4)
                      have HK4 := hide' hI4
                      have HK7 := hide' hI7
                      obtain ⟨w7, hw7⟩ : ∃ w7, wr = w7 := ⟨_, rfl⟩
                      rw [hw7] at HK1 HK2 HK4 HK7 hbw7 ⊢
                      clear hI7 hI4 hch hb4 hw7 HSTEP HST HJ1 HJ2
                      go_wp2_with fail
                      go_loopw [16] (fun i wx => ∃ k q : Nat, k ≤ nl ∧ i = .int .i64 k ∧ wx = w7.drewN q) (fun i _ => nl - (intOf i).toNat)
                      case atStart => exact ⟨0, 0, by omega, rfl, rfl⟩
                      case round =>
                        obtain ⟨k, q, hk, rfl, rfl⟩ := hrel
                        by_cases hlt : k < nl
                        · have hne := ne_nil_of_lt HNL.out hlt
                          obtain ⟨b4, o4, rfl, hL4⟩ := ints_some HK4.out hne
                          obtain ⟨b1, o1, rfl, hL1⟩ := ints_some HK1.out hne
                          obtain ⟨b7, o7, rfl, hL7⟩ := ints_some HK7.out (by intro e; rw [List.append_eq_nil_iff] at e; exact hne e.1)
                          have q4 := hL4.2 k (by rw [HNL.out]; exact hlt)
                          have q1 := hL1.2 k (by rw [HNL.out]; exact hlt)
                          have q7 := hL7.2 k (by rw [List.length_append, HNL.out]; omega)
                          rw [getD_left lz _ k (by rw [HNL.out]; exact hlt)] at q7
                          obtain ⟨z, hz⟩ : ∃ z, lz.getD k 0 = z := ⟨_, rfl⟩
                          rw [hz] at q1 q4 q7
                          have k1 : (k : Int) < (nl : Int) := by omega
                          have k2 : (k : Int) < (nl : Int) + (t : Int) := by omega
                          clear hz hne hL4 hL1 hL7
                          go_wp2
                          go_quiet (fail)
                          go_wp2
                          go_roundw
                          case rel => exact ⟨k + 1, _, by omega, by go_num, rfl⟩
                          case measure => simp [intOf]; omega
                        · obtain rfl : nl = k := by omega
                          clear hlt hk
                          go_wp2
                          go_loopw [17, 18] (fun l i wx => ∃ k q t' : Nat, k ≤ n ∧ i = .int .i64 k ∧ l = .int .i64 ((nl : Int) + (t' : Int)) ∧ total (Z.take k) = t' ∧ wx = w7.drewN q) (fun _ i _ => n - (intOf i).toNat)
                          case atStart => exact ⟨0, _, 0, by omega, rfl, by go_num, HT0.out, rfl⟩
                          case round =>
                            obtain ⟨k, q, t', hk, rfl, rfl, ht', rfl⟩ := hrel
                            have HT' := hide' ht'
                            clear ht'
                            by_cases hlt : k < n
                            · obtain ⟨b2, o2, rfl, HR⟩ := HK2.out.some HN.out hlt
                              have hst := HTZ.out k (by rw [HN.out]; exact hlt)
                              have hle := HLE.out (k + 1)
                              rw [HT'.out] at hst
                              rw [hst] at hle
                              have hrow := HR.2 k (by rw [HN.out]; exact hlt)
                              have hcell := hrow.1
                              have HINT := hide' hrow.2.2
                              have HAT := hide' (fun j hj => acc_at lz Z nl k t' j HNL.out (by rw [HN.out]; exact hlt) HT'.out hj)
                              have HST := hide' hst
                              obtain ⟨zs, hzs⟩ : ∃ zs, Z.getD k [] = zs := ⟨_, rfl⟩
                              obtain ⟨x, hx⟩ : ∃ x, zs.length = x := ⟨_, rfl⟩
                              rw [hzs] at hcell hle HINT HAT HST
                              rw [hx] at hcell hle HAT HST
                              have HX := hide' hx
                              clear hst hrow hzs hx HR
                              go_wp2
                              go_loopw [17, 19] (fun l i wx => ∃ j q : Nat, j ≤ x ∧ i = .int .i64 j ∧ l = .int .i64 ((nl : Int) + (t' : Int) + (j : Int)) ∧ wx = w7.drewN q) (fun _ i _ => x - (intOf i).toNat)
                              case atStart => exact ⟨0, _, by omega, rfl, by go_num, rfl⟩
                              case round =>
                                obtain ⟨j, q, hj, rfl, rfl, rfl⟩ := hrel
                                by_cases hltj : j < x
                                · have hne := ne_nil_of_lt HX.out hltj
                                  obtain ⟨b6, o6, hA6, hL6⟩ := ints_some HINT.out hne
                                  have q6 := hL6.2 j (by rw [HX.out]; exact hltj)
                                  have hfl : (lz ++ Z.flatten).length = nl + t := by
                                    have := accTo_full lz Z n HN.out
                                    rw [← this, HLn.out]
                                  obtain ⟨b7, o7, rfl, hL7⟩ := ints_some HK7.out (ne_nil_of_lt (k := nl + t' + j) hfl (by omega))
                                  have q7 := hL7.2 (nl + t' + j) (by rw [hfl]; omega)
                                  rw [HAT.out j hltj] at q7
                                  rw [hA6] at hcell
                                  obtain ⟨z, hz⟩ : ∃ z, zs.getD j 0 = z := ⟨_, rfl⟩
                                  rw [hz] at q6 q7
                                  have k1 : (j : Int) < (x : Int) := by omega
                                  have k2 : (nl : Int) + (t' : Int) + (j : Int) < (nl : Int) + (t : Int) := by omega
                                  have k3 : 0 ≤ (nl : Int) + (t' : Int) + (j : Int) := by omega
                                  have k4 : ((nl : Int) + (t' : Int) + (j : Int)).toNat = nl + t' + j := by omega
                                  have k5 : (k : Int) < (n : Int) := by omega
                                  clear hz hne hL6 hL7 hA6 hfl
                                  go_wp2
                                  go_quiet (fail)
                                  go_wp2
                                  go_roundw
                                  case rel => exact ⟨j + 1, _, by omega, by go_num, by go_num, rfl⟩
                                  case measure => simp [intOf]; omega
                                · obtain rfl : x = j := by omega
                                  go_wp2
                                  go_roundw
                                  case rel => exact ⟨k + 1, _, t' + x, by omega, by go_num, by go_num, HST.out, rfl⟩
                                  case measure => simp [intOf]; omega
                            · go_wp2
                              go_ret
                              exact ⟨rfl, below_drewN hbw7 _⟩

end Go.Proofs.Qxb6605816a
