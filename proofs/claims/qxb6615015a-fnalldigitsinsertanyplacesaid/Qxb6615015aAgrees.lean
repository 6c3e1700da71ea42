/-
  FnAllDigitsAgreesAtAnyCut (3): the walk.
-/
import Derived.Test.Qxb6615015aDigits
import Derived.Laws.CopyOwn
namespace Go.Proofs.Qxb6615015a
open Go.RowKit

theorem Try.info9 : (Try.prog.info? 9).map (fun i => (i.zero, i.size, i.bytes)) = some (some (.string ByteArray.empty), 1, 16) := by kernel_rfl

theorem own_block {w : World} {base g n : Nat} {xs : List Value} (h : w.ownsRow base 9 1 (.slice (some ⟨g, 0, none⟩) n n) n xs) :
    ∃ cur : List Value, w.heap[g]? = some (.cells cur.toArray 9 (0, 0)) ∧ cur.length = n := by
  obtain ⟨_, h2⟩ := h
  rcases h2 with ⟨h2, _⟩ | ⟨g', cap, cur, hv, hg, hh, _, _, hsz, _⟩
  · cases h2
  · cases hv
    exact ⟨cur.toList, by simpa using hh, by simpa using hsz⟩

theorem lies_row {w : World} {g n : Nat} {ss : List ByteArray} (hh : w.heap[g]? = some (.cells ((ss.take n).map Value.string).toArray 9 (0, 0))) (hn : n ≤ ss.length) (hs : ∀ x ∈ ss, x.size ≤ maxLen) : Lies w g 0 n ss := by
  refine ⟨?_, hn, fun j hj => ?_, hs⟩
  · exact (Array.getElem?_eq_some_iff.1 hh).1
  · simp only [World.cell?, hh]
    simp [hj, show j < ss.length from by omega]

theorem splice_all {α : Type} (cur cs : List α) (h : cs.length = cur.length) : splice cur 0 cs = cs := by
  simp [splice, h]

/-- What copy needs of the source. -/
theorem src_cells {w : World} {b off n : Nat} {ss : List ByteArray} (H : Lies w b off n ss) : ∀ j v, ((ss.take n).map Value.string)[j]? = some v → w.cell? ((⟨b, off, none⟩ : Addr).add j) = some v := by
  intro j v hv
  have hj : j < n := by
    have := (List.getElem?_eq_some_iff.1 hv).1
    simp at this; omega
  have hl : j < ss.length := Nat.lt_of_lt_of_le hj H.2.1
  rw [Addr.add_lit, H.cell hj]
  simp [hj, hl] at hv
  simp [hl, hv]

theorem strs_oneCell (l : List ByteArray) : ∀ u ∈ l.map Value.string, u.oneCell' = true := by
  intro u hu
  obtain ⟨_, _, rfl⟩ := List.mem_map.1 hu
  rfl

theorem own_hid {w : World} {base g n : Nat} {xs : List Value} (h : w.ownsRow base 9 1 (.slice (some ⟨g, 0, none⟩) n n) n xs) :
    ∃ cur : List Value, Hid (w.heap[g]? = some (.cells cur.toArray 9 (0, 0))) ∧ Hid (cur.length = n) := own_block h

theorem copy_src {w w1 : World} {b off n : Nat} {ss : List ByteArray} {cs : List Value} (hb : Below w.heap.size w w1) (H : Lies w b off n ss)
    (h : Hid (∀ j v, cs[j]? = some v → w.cell? ((⟨b, off, none⟩ : Addr).add j) = some v)) : ∀ j v, cs[j]? = some v → w1.cell? ((⟨b, off, none⟩ : Addr).add j) = some v :=
  fun j v hv => (hb.cell (p := (⟨b, off, none⟩ : Addr).add j) (by rw [Addr.add_lit]; exact H.1)).trans (h.out j v hv)

theorem Lies.take {w : World} {b off n m : Nat} {ss : List ByteArray} (h : Lies w b off n ss) (hm : m ≤ n) : Lies w b off m ss :=
  ⟨h.1, Nat.le_trans hm h.2.1, fun j hj => h.2.2.1 j (Nat.lt_of_lt_of_le hj hm), h.2.2.2⟩
theorem Lies.drop {w : World} {b n m : Nat} {ss : List ByteArray} (h : Lies w b 0 n ss) (hm : m ≤ n) : Lies w b m (n - m) (ss.drop m) := by
  have h2 := h.2.1
  refine ⟨h.1, by simp; omega, fun j hj => ?_, fun x hx => h.2.2.2 x (List.mem_of_mem_drop hx)⟩
  have := h.2.2.1 (m + j) (by omega)
  rw [Nat.zero_add] at this
  rw [this]
  simp [List.getD]

set_option maxHeartbeats 1000000 in
theorem agrees_some (CF : CFSaid) (b off n c : Nat) (ss : List ByteArray) (w : World) (k : Int) (hn : n ≤ 9223372036854775807) (H : Lies w b off n ss) :
    Calls Try.prog 3 #[.slice (some ⟨b, off, none⟩) n c, .int .i64 k] w fun e w' => e = .returned (.bool true) ∧ Below w.heap.size w w' := by
  have hlen := H.2.1
  have h5 := bytes5_any b off n c ss w k hn H
  by_cases hbig : (65536 : Int) < (n : Int)
  · go_enter Try.func3, Try.ntmps3
    go_wp2_with (go_at_call 5; refine h5.mono ?_; rintro e w' ⟨⟨z, rfl⟩, rfl⟩; cases z)
    all_goals (go_ret; exact ⟨rfl, Below.refl _ _⟩)
  have h6 := left_any b off n c ss w (1048576 - 16 * n) (by omega) (by omega) hn H
  by_cases hk0 : k < 0
  · go_enter Try.func3, Try.ntmps3
    go_wp2_with (first | (go_at_call 5; refine h5.mono ?_; rintro e w' ⟨⟨z, rfl⟩, rfl⟩; cases z) | (go_at_call 6; refine h6.mono ?_; rintro e w' ⟨⟨z, rfl⟩, rfl⟩))
    all_goals (go_ret; exact ⟨rfl, Below.refl _ _⟩)
  by_cases hkn : (n : Int) < k
  · go_enter Try.func3, Try.ntmps3
    go_wp2_with (first | (go_at_call 5; refine h5.mono ?_; rintro e w' ⟨⟨z, rfl⟩, rfl⟩; cases z) | (go_at_call 6; refine h6.mono ?_; rintro e w' ⟨⟨z, rfl⟩, rfl⟩))
    all_goals (go_ret; exact ⟨rfl, Below.refl _ _⟩)
  obtain ⟨m, rfl⟩ := Int.eq_ofNat_of_zero_le (show 0 ≤ k by omega)
  obtain ⟨i, hi, hz0, hz1, hz2⟩ := info_parts Try.info9
  have hisz : (Try.prog.info? 9).map (·.size) = some 1 := by rw [hi]; simp [hz1]
  obtain ⟨cs, hcs⟩ : ∃ cs, cs = (ss.take n).map Value.string := ⟨_, rfl⟩
  have hcl : cs.length = n := by rw [hcs]; simp; omega
  have hc1 : ∀ v ∈ cs, v.oneCell' = true := by rw [hcs]; exact strs_oneCell _
  have hsrc := src_cells H
  rw [← hcs] at hsrc
  have HC : Hid (cs = (ss.take n).map Value.string) := hcs
  have HL : Hid (cs.length = n) := hcl
  have H1 : Hid (∀ v ∈ cs, v.oneCell' = true) := hc1
  have HSrc : Hid (∀ j v, cs[j]? = some v → w.cell? ((⟨b, off, none⟩ : Addr).add j) = some v) := hsrc
  clear hcs hcl hc1 hsrc
  go_enter Try.func3, Try.ntmps3
  go_wp2_with (first
    | (go_at_call 5; refine h5.mono ?_; rintro e w' ⟨⟨z, rfl⟩, rfl⟩; cases z)
    | (go_at_call 6; refine h6.mono ?_; rintro e w' ⟨⟨z, rfl⟩, rfl⟩)
    | (at_make; refine wpList_make_full _ rfl _ _ 22 rfl w.heap.size 9 i _ 1 Try.underlying22 hi hz0 hz1 _ _ _ _ n rfl rfl rfl rfl (by rw [hz2]; omega) (by unfold maxLen; omega) (Nat.le_refl _) ?_; intro w1 hown hgr; have hb1 : Below w.heap.size w w1 := (Below.refl _ _).grown hgr (Nat.le_refl _) (fun k hk => by cases hk); obtain ⟨cur, HG1, HN1⟩ := own_hid hown; clear hown hgr)
    | (have T1 := HG1; refine wpList_copy_splice rfl (.tmp 34) (.tmp 35) 22 22 rfl 9 Try.underlying22 hisz (some ⟨w.heap.size, 0, none⟩) (some ⟨b, off, none⟩) n n n c rfl rfl w.heap.size 0 cur 9 HG1.out cs (by rw [HL.out]; simp) (fun _ => ⟨rfl, _, rfl, copy_src hb1 H HSrc⟩) (by rw [HL.out, HN1.out]; omega) H1.out w.heap.size w hb1 (Nat.le_refl _) ?_; intro w2 HG2 hb2; clear hb1 T1 HG1))
  · go_ret; exact ⟨rfl, Below.refl _ _⟩
  · go_ret; exact ⟨rfl, Below.refl _ _⟩
  have L2 : Lies w2 w.heap.size 0 n ss := lies_row (by rw [HG2.out, splice_all _ _ (by rw [HL.out, HN1.out]), HC.out]) hlen H.2.2.2
  clear HG2 HN1 HC HL H1 HSrc h5 h6
  obtain ⟨A, hA⟩ : ∃ A, allD (ss.take n) = A := ⟨_, rfl⟩
  obtain ⟨P, hP⟩ : ∃ P, allD (ss.take m) = P := ⟨_, rfl⟩
  obtain ⟨R, hR⟩ : ∃ R, allD ((ss.drop m).take (n - m)) = R := ⟨_, rfl⟩
  have HAPR : Hid (A = (P && R)) := by
    show A = (P && R)
    rw [← hA, ← hP, ← hR]
    have := allD_cut (ss.take n) m
    rw [List.take_take, Nat.min_eq_left (by omega), List.drop_take] at this
    exact this
  have c1 := fun W (L : Lies W w.heap.size 0 n ss) => zall_any CF w.heap.size 0 n n ss W (by omega) L
  have c2 := fun W (L : Lies W w.heap.size 0 m ss) => zall_any CF w.heap.size 0 m n ss W (by omega) L
  have c3 := fun W (L : Lies W w.heap.size m (n - m) (ss.drop m)) => zall_any CF w.heap.size m (n - m) (n - m) (ss.drop m) W (by omega) L
  have c4 := fun W (L : Lies W w.heap.size 0 n ss) => every_any w.heap.size 0 n n ss W (by omega) L
  simp only [hA] at c1 c4
  simp only [hP] at c2
  simp only [hR] at c3
  have hRe : m = n → R = true := fun e => by rw [← hR, e, Nat.sub_self]; rfl
  clear hA hP hR
  refine (c1 w2 L2).mono ?_
  rintro e w3 ⟨rfl, hb3⟩
  have L3 := L2.later hb3
  have hb3' := hb2.trans (hb3.mono hb2.size)
  clear L2 c1 hb3 hb2
  go_wp2_with fail
  refine (c2 w3 (L3.take (by omega))).mono ?_
  rintro e w4 ⟨rfl, hb4⟩
  have L4 := L3.later hb4
  have hb4' := hb3'.trans (hb4.mono hb3'.size)
  clear L3 c2 hb4 hb3'
  cases P with
  | false =>
    have hAf : A = false := HAPR.out
    subst hAf
    go_wp2_with fail
    refine (c4 w4 L4).mono ?_
    rintro e w5 ⟨rfl, rfl⟩
    go_wp2_with fail
    go_ret
    exact ⟨by simp, hb4'⟩
  | true =>
    have hAR : A = R := by rw [HAPR.out]; rfl
    subst hAR
    clear HAPR
    by_cases hmn : m = n
    · obtain rfl := hRe hmn
      subst hmn
      clear hRe
      go_wp2_with fail
      refine (zall_none _ _ _).mono ?_
      rintro e w5 ⟨rfl, rfl⟩
      go_wp2_with fail
      refine (c4 w4 L4).mono ?_
      rintro e w5 ⟨rfl, rfl⟩
      go_wp2_with fail
      go_ret
      exact ⟨by simp, hb4'⟩
    · clear hRe
      have hmn' : ¬ n = m := fun h => hmn h.symm
      go_wp2_with fail
      refine (c3 w4 (L4.drop (by omega))).mono ?_
      rintro e w5 ⟨rfl, hb5⟩
      have L5 := L4.later hb5
      have hb5' := hb4'.trans (hb5.mono hb4'.size)
      go_wp2_with fail
      refine (c4 w5 L5).mono ?_
      rintro e w6 ⟨rfl, rfl⟩
      go_wp2_with fail
      go_ret
      exact ⟨by simp, hb5'⟩
end Go.Proofs.Qxb6615015a
