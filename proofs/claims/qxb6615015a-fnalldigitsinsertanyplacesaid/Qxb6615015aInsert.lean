/-
  FnAllDigitsInsertAnyPlace (4): the walk where ids is not nil.
-/
import Derived.Test.Qxb6615015aAgrees
namespace Go.Proofs.Qxb6615015a
open Go.RowKit

set_option maxHeartbeats 400000 in
theorem bytes9_any (b off n c : Nat) (ss : List ByteArray) (x : ByteArray) (w : World) (kk : Int) (hx : x.size ≤ maxLen) (hn : n ≤ 9223372036854775807) (H : Lies w b off n ss) :
    Calls Try.prog 9 #[.slice (some ⟨b, off, none⟩) n c, .string x, .int .i64 kk] w fun e w' => SomeBool e ∧ w = w' := by
  unfold maxLen at hx
  by_cases hbig : (1048576 : Int) < (n : Int)
  · go_enter Try.func9, Try.ntmps9
    go_wp2
    go_ret
    exact ⟨⟨_, rfl⟩, rfl⟩
  go_enter Try.func9, Try.ntmps9
  go_wp2
  go_loop [7, 8] (fun l i => ∃ (k : Nat) (z : Int), k ≤ n ∧ i = .int .i64 k ∧ l = .int .i64 z ∧ 0 ≤ z ∧ z ≤ 1048576) (fun _ i => n - (intOf i).toNat)
  case atStart => exact ⟨0, n, Nat.zero_le _, rfl, rfl, by omega, by omega⟩
  case round =>
    obtain ⟨k, z, hk, rfl, rfl, hz0, hz1⟩ := hrel
    by_cases hlt : k < n
    · have hcell := H.cell hlt
      have hsz := H.size hlt
      obtain ⟨x, hx⟩ : ∃ x, ss.getD k ByteArray.empty = x := ⟨_, rfl⟩
      rw [hx] at hcell hsz
      unfold maxLen at hsz
      clear hx
      by_cases hd : (1048576 : Int) < (x.size : Int)
      · go_wp2
        go_ret
        exact ⟨⟨_, rfl⟩, rfl⟩
      · by_cases he : (1048576 : Int) < z + (x.size : Int)
        · go_wp2
          go_ret
          exact ⟨⟨_, rfl⟩, rfl⟩
        · go_wp2
          go_round
          case rel => exact ⟨k + 1, z + x.size, by omega, by go_num, rfl, by omega, by omega⟩
          case measure => simp [intOf]; omega
    · by_cases hd : (1048576 : Int) < (x.size : Int)
      · go_wp2
        go_ret
        exact ⟨⟨_, rfl⟩, rfl⟩
      · by_cases he : (1048576 : Int) < z + (x.size : Int)
        · go_wp2
          go_ret
          exact ⟨⟨_, rfl⟩, rfl⟩
        · go_wp2
          go_ret
          exact ⟨⟨_, rfl⟩, rfl⟩

set_option maxHeartbeats 400000 in
theorem bytes9_none (a : Option Addr) (c : Nat) (x : ByteArray) (w : World) (kk : Int) (hx : x.size ≤ maxLen) :
    Calls Try.prog 9 #[.slice a 0 c, .string x, .int .i64 kk] w fun e w' => SomeBool e ∧ w = w' := by
  unfold maxLen at hx
  go_enter Try.func9, Try.ntmps9
  go_wp2
  go_loop [7, 8] (fun l i => i = .int .i64 0 ∧ l = .int .i64 0) (fun _ _ => 0)
  case atStart => exact ⟨rfl, rfl⟩
  case round =>
    obtain ⟨rfl, rfl⟩ := hrel
    by_cases hd : (1048576 : Int) < (x.size : Int)
    · go_wp2
      go_ret
      exact ⟨⟨_, rfl⟩, rfl⟩
    · go_wp2
      go_ret
      exact ⟨⟨_, rfl⟩, rfl⟩

theorem ins_len (ss : List ByteArray) (x : ByteArray) (n m : Nat) (hn : n ≤ ss.length) (hm : m ≤ n) : ((ss.take n).take m ++ x :: (ss.take n).drop m).length = n + 1 := by
  simp; omega

/-- What lies in a row of the call's own. -/
theorem lies_own {w : World} {base g n cap : Nat} {xs : List ByteArray} (h : w.ownsRow base 9 1 (.slice (some ⟨g, 0, none⟩) n cap) n (xs.map Value.string)) (hs : ∀ x ∈ xs, x.size ≤ maxLen) : Lies w g 0 n xs := by
  have hl : xs.length = n := by simpa using h.1
  refine ⟨(h.lt g rfl).2, by omega, fun j hj => ?_, hs⟩
  have := h.cellAt j (by omega)
  rw [Nat.zero_add, this]
  simp [show j < xs.length from by omega]

theorem lies_below {w w' : World} {B b off n : Nat} {ss : List ByteArray} (h : Lies w b off n ss) (hb : Below B w w') (hB : b < B) : Lies w' b off n ss :=
  ⟨Nat.lt_of_lt_of_le h.1 hb.size, h.2.1, fun j hj => (hb.cell (p := ⟨b, off + j, none⟩) hB).trans (h.2.2.1 j hj), h.2.2.2⟩

theorem src_take {w w' : World} {g n m : Nat} {ss : List ByteArray} {X : List Value} (h : Lies w g 0 n ss) (hb : Below w.heap.size w w') (hX : Hid (X = ((ss.take n).take m).map Value.string)) :
    ∀ ad, some (⟨g, 0, none⟩ : Addr) = some ad → ∀ j u, X[j]? = some u → w'.cell? (ad.add j) = some u := by
  intro ad had j u hu
  obtain rfl := Option.some.inj had
  have L := (h.later hb)
  rw [hX.out] at hu
  have hj : j < m ∧ j < n := by
    have := (List.getElem?_eq_some_iff.1 hu).1
    simp at this; omega
  refine src_cells L j u ?_
  rw [← hu]
  simp [hj]
theorem src_drop {w w' : World} {g n m : Nat} {ss : List ByteArray} {X : List Value} {ao : Option Addr} (h : Lies w g 0 n ss) (hb : Below w.heap.size w w') (hX : Hid (X = ((ss.take n).drop m).map Value.string))
    (hao : ¬ n = m → ao = some ⟨g, m, none⟩) : ∀ ad, ao = some ad → ∀ j u, X[j]? = some u → w'.cell? (ad.add j) = some u := by
  intro ad had j u hu
  have L := (h.later hb)
  have hlen := L.2.1
  rw [hX.out] at hu
  have hj : j < n - m := by
    have := (List.getElem?_eq_some_iff.1 hu).1
    simp at this; omega
  rw [hao (by omega)] at had
  obtain rfl := Option.some.inj had
  rw [Addr.add_lit]
  have := L.2.2.1 (m + j) (by omega)
  rw [Nat.zero_add] at this
  rw [this, ← hu]
  simp [List.getD, show m + j < n from by omega, show m + j < ss.length from by omega]
theorem own_zero {w : World} {B g m cap : Nat} {X : List Value} (h : w.ownsRow B 9 1 (.slice (some ⟨g, 0, none⟩) (0 + m) cap) (0 + m) ([] ++ X)) : w.ownsRow B 9 1 (.slice (some ⟨g, 0, none⟩) m cap) m X := by
  simpa using h

theorem own_ins {w : World} {B g n m q : Nat} {ss I : List ByteArray} {x : ByteArray} {X1 X2 : List Value} (h : w.ownsRow B 9 1 (.slice (some ⟨g, 0, none⟩) q (n + 1)) q (X1 ++ [.string x] ++ X2))
    (h1 : Hid (X1 = ((ss.take n).take m).map Value.string)) (h2 : Hid (X2 = ((ss.take n).drop m).map Value.string)) (hI : Hid ((ss.take n).take m ++ x :: (ss.take n).drop m = I)) (hq : q = n + 1) :
    w.ownsRow B 9 1 (.slice (some ⟨g, 0, none⟩) (n + 1) (n + 1)) (n + 1) (I.map Value.string) := by
  rw [hq, h1.out, h2.out] at h
  rw [← hI.out]
  simpa using h
theorem hide' {p : Prop} (h : p) : Hid p := h

set_option maxHeartbeats 1000000 in
theorem insert_some (CF : CFSaid) (a : Addr) (n c : Nat) (ss : List ByteArray) (x : ByteArray) (w : World) (k : Int) (hx : x.size ≤ maxLen) (hn : n ≤ 9223372036854775807) (hlen : n ≤ ss.length) (hss : ∀ y ∈ ss, y.size ≤ maxLen)
    (h9 : Calls Try.prog 9 #[.slice (some a) n c, .string x, .int .i64 k] w fun e w' => SomeBool e ∧ w = w')
    (hsrc : ∀ w', Below w.heap.size w w' → ∀ j v, ((ss.take n).map Value.string)[j]? = some v → w'.cell? (a.add j) = some v) :
    Calls Try.prog 4 #[.slice (some a) n c, .string x, .int .i64 k] w fun e w' => e = .returned (.bool true) ∧ Below w.heap.size w w' := by
  by_cases hbig : (65536 : Int) < (n : Int)
  · clear hsrc
    go_enter Try.func4, Try.ntmps4
    go_wp2_with (go_at_call 9; refine h9.mono ?_; rintro e w' ⟨⟨z, rfl⟩, rfl⟩; cases z)
    all_goals (go_ret; exact ⟨rfl, Below.refl _ _⟩)
  obtain ⟨i, hi, hz0, hz1, hz2⟩ := info_parts Try.info9
  have hisz : (Try.prog.info? 9).map (·.size) = some 1 := by rw [hi]; simp [hz1]
  obtain ⟨cs, hcs⟩ : ∃ cs, cs = (ss.take n).map Value.string := ⟨_, rfl⟩
  have hcl : cs.length = n := by rw [hcs]; simp; omega
  have hc1 : ∀ v ∈ cs, v.oneCell' = true := by rw [hcs]; exact strs_oneCell _
  rw [← hcs] at hsrc
  have HC : Hid (cs = (ss.take n).map Value.string) := hcs
  have HL : Hid (cs.length = n) := hcl
  have H1 : Hid (∀ v ∈ cs, v.oneCell' = true) := hc1
  have HSrc : Hid (∀ w', Below w.heap.size w w' → ∀ j v, cs[j]? = some v → w'.cell? (a.add j) = some v) := hsrc
  have HSS : Hid (∀ y ∈ ss, y.size ≤ maxLen) := hss
  clear hcs hcl hc1 hsrc hss
  go_enter Try.func4, Try.ntmps4
  go_wp2_with (first
    | (go_at_call 9; refine h9.mono ?_; rintro e w' ⟨⟨z, rfl⟩, rfl⟩; cases z)
    | (at_make; refine wpList_make_full _ rfl _ _ 22 rfl w.heap.size 9 i _ 1 Try.underlying22 hi hz0 hz1 _ _ _ _ n rfl rfl rfl rfl (by rw [hz2]; omega) (by unfold maxLen; omega) (Nat.le_refl _) ?_; intro w1 hown hgr; have hb1 : Below w.heap.size w w1 := (Below.refl _ _).grown hgr (Nat.le_refl _) (fun k hk => by cases hk); obtain ⟨cur, HG1, HN1⟩ := own_hid hown; clear hown hgr)
    | (have T1 := HG1; refine wpList_copy_splice rfl (.tmp 24) (.tmp 25) 22 22 rfl 9 Try.underlying22 hisz (some ⟨w.heap.size, 0, none⟩) (some a) n n n c rfl rfl w.heap.size 0 cur 9 HG1.out cs (by rw [HL.out]; simp) (fun _ => ⟨rfl, _, rfl, HSrc.out w1 hb1⟩) (by rw [HL.out, HN1.out]; omega) H1.out w.heap.size w hb1 (Nat.le_refl _) ?_; intro w2 HG2 hb2; clear hb1 T1 HG1))
  · go_ret; exact ⟨rfl, Below.refl _ _⟩
  have L2 : Lies w2 w.heap.size 0 n ss := lies_row (by rw [HG2.out, splice_all _ _ (by rw [HL.out, HN1.out]), HC.out]) hlen HSS.out
  clear HG2 HN1 HC HL H1 HSrc h9
  refine (left_any w.heap.size 0 n n ss w2 (1048576 - 16 * n) (by omega) (by omega) hn L2).mono ?_
  rintro e w' ⟨⟨z, rfl⟩, rfl⟩
  by_cases hz : z < 0
  · go_wp2_with fail
    go_ret
    exact ⟨rfl, hb2⟩
  by_cases hxz : z < (x.size : Int)
  · go_wp2_with fail
    go_ret
    exact ⟨rfl, hb2⟩
  by_cases hk0 : k < 0
  · go_wp2_with fail
    go_ret
    exact ⟨rfl, hb2⟩
  by_cases hkn : (n : Int) < k
  · go_wp2_with fail
    go_ret
    exact ⟨rfl, hb2⟩
  obtain ⟨m, rfl⟩ := Int.eq_ofNat_of_zero_le (show 0 ≤ k by omega)
  obtain ⟨X1, hX1⟩ : ∃ X1, X1 = ((ss.take n).take m).map Value.string := ⟨_, rfl⟩
  obtain ⟨X2, hX2⟩ : ∃ X2, X2 = ((ss.take n).drop m).map Value.string := ⟨_, rfl⟩
  have HX1 : Hid (X1 = ((ss.take n).take m).map Value.string) := hX1
  have HX2 : Hid (X2 = ((ss.take n).drop m).map Value.string) := hX2
  have HL1 : Hid (X1.length = m * 1) := by show _ = _; rw [hX1]; simp; omega
  have HL2 : Hid (X2.length = (n - m) * 1) := by show _ = _; rw [hX2]; simp; omega
  clear hX1 hX2
  have hcap : ((n + 1 : Nat) : Int) = (n : Int) + 1 := by omega
  obtain ⟨A, hA⟩ : ∃ A, allD (ss.take n) = A := ⟨_, rfl⟩
  obtain ⟨D, hD⟩ : ∃ D, digs x = D := ⟨_, rfl⟩
  obtain ⟨I, hI⟩ : ∃ I, (ss.take n).take m ++ x :: (ss.take n).drop m = I := ⟨_, rfl⟩
  obtain ⟨R, hR⟩ : ∃ R, allD (I.take (n + 1)) = R := ⟨_, rfl⟩
  have hIl := ins_len ss x n m hlen (by omega)
  have HADR : Hid (R = (A && D)) := by
    show R = (A && D)
    rw [← hR, ← hA, ← hD, ← allD_insert (ss.take n) x m, hI, List.take_of_length_le (by rw [← hI, hIl]; exact Nat.le_refl _)]
  have HIs : Hid (∀ y ∈ I, y.size ≤ maxLen) := by
    intro y hy
    rw [← hI] at hy
    simp only [List.mem_append, List.mem_cons] at hy
    rcases hy with h | rfl | h
    · exact HSS.out y (List.mem_of_mem_take (List.mem_of_mem_take h))
    · exact hx
    · exact HSS.out y (List.mem_of_mem_take (List.mem_of_mem_drop h))
  have HI : Hid ((ss.take n).take m ++ x :: (ss.take n).drop m = I) := hI
  have c1 := fun W (L : Lies W w.heap.size 0 n ss) => zall_any CF w.heap.size 0 n n ss W (by omega) L
  have c2 := fun W (L : Lies W w2.heap.size 0 (n + 1) I) => zall_any CF w2.heap.size 0 (n + 1) (n + 1) I W (by omega) L
  have c3 := fun W => digitsOnly_any x W hx
  have c4 := fun W (L : Lies W w.heap.size 0 n ss) => every_any w.heap.size 0 n n ss W (by omega) L
  simp only [hA] at c1 c4
  simp only [hR] at c2
  simp only [hD] at c3
  have c2' : Hid (∀ W q, q = n + 1 → Lies W w2.heap.size 0 (n + 1) I → Calls Try.prog 7 #[.slice (some ⟨w2.heap.size, 0, none⟩) q (n + 1)] W fun e w' => e = .returned (.bool R) ∧ Below W.heap.size W w') := fun W q hq L => by subst hq; exact c2 W L
  have C1 := hide' c1
  have C3 := hide' c3
  have C4 := hide' c4
  clear hA hD hR hI hIl c1 c2 c3 c4
  have tok1 : True := trivial
  have tok2 : True := trivial
  have tok3 : True := trivial
  go_wp2_with (first
    | (at_make; refine wpList_make_own _ rfl _ _ 22 rfl w2.heap.size 9 i _ 1 Try.underlying22 hi hz0 hz1 _ _ _ (n + 1) rfl rfl rfl (by rw [hz2]; omega) (by unfold maxLen; omega) (Nat.le_refl _) ?_; intro w3 hown3 hgr3; have hb3 : Below w2.heap.size w2 w3 := (Below.refl _ _).grown hgr3 (Nat.le_refl _) (fun k hk => by cases hk); clear hgr3)
    | (at_builtin; have _t := tok1; refine wpList_append_fits_any _ rfl (.tmp 52) (.tmp 55) 22 rfl w2.heap.size 9 i 1 Try.underlying22 hi hz1 w2.heap.size 0 (n + 1) [] rfl hown3 _ m _ X1 rfl HL1.out (fun h => by cases h) (src_take L2 hb3 HX1) (by rw [HX1.out]; exact strs_oneCell _) (by omega) ?_; intro w4 hown4 hgr4; have hb4 : Below w2.heap.size w2 w4 := hb3.grown hgr4 hb3.size (fun k hk => by cases hk; exact Nat.le_refl _); have hown4' := own_zero hown4; clear tok1 _t hown3 hown4 hgr4 hb3)
    | (at_builtin; have _t := tok2; refine wpList_append_fits _ rfl (.tmp 57) (.tmp 59) 22 rfl w2.heap.size 9 i 1 Try.underlying22 hi hz1 w2.heap.size m (n + 1) X1 rfl (hown4'.alloc _) ⟨w4.heap.size, 0, none⟩ 1 1 [.string x] rfl rfl (cell_one_new _ _ _) (by simp [Value.oneCell']) (by omega) ?_; intro w5 hown5 hgr5; have hb5 : Below w2.heap.size w2 w5 := (hb4.alloc hb4.size _).grown hgr5 (Nat.le_trans hb4.size (by simp)) (fun k hk => by cases hk; exact Nat.le_refl _); clear tok2 _t hown4' hgr5 hb4)
    | (at_builtin; have _t := tok3; refine wpList_append_fits_any _ rfl (.tmp 61) (.tmp 64) 22 rfl w2.heap.size 9 i 1 Try.underlying22 hi hz1 w2.heap.size (m + 1) (n + 1) (X1 ++ [.string x]) rfl hown5 _ (n - m) _ X2 rfl HL2.out (fun h => absurd h (by split <;> simp)) (src_drop L2 hb5 HX2 (by intro h; first | rfl | simp [h])) (by rw [HX2.out]; exact strs_oneCell _) (by omega) ?_; intro w6 hown6 hgr6; have hb6 : Below w2.heap.size w2 w6 := hb5.grown hgr6 hb5.size (fun k hk => by cases hk; exact Nat.le_refl _); clear tok3 _t hown5 hgr6 hb5))
  all_goals
    have LI := lies_own (own_ins hown6 HX1 HX2 HI (by omega)) HIs.out
    have L6 := L2.later hb6
    have hb6' := hb2.trans (hb6.mono hb2.size)
    try (have hnm : n = m := by assumption
         subst hnm)
    refine (C1.out w6 L6).mono ?_
    rintro e w7 ⟨rfl, hb7⟩
    have L7 := L6.later hb7
    have LI7 := LI.later hb7
    have hb7' := hb6'.trans (hb7.mono hb6'.size)
    clear L6 LI C1 hb7 hb6' hown6 HX1 HX2 HL1 HL2 HI HIs hb6 hb2 L2
    go_wp2_with fail
    refine (c2'.out w7 _ (by omega) LI7).mono ?_
    rintro e w8 ⟨rfl, hb8⟩
    have L8 := L7.later hb8
    have hb8' := hb7'.trans (hb8.mono hb7'.size)
    clear L7 LI7 c2' hb8 hb7'
    cases A with
    | false =>
      obtain rfl : R = false := HADR.out
      go_wp2_with fail
      refine (C4.out w8 L8).mono ?_
      rintro e w9 ⟨rfl, rfl⟩
      go_wp2_with fail
      go_ret
      exact ⟨by simp, hb8'⟩
    | true =>
      obtain rfl : R = D := by rw [HADR.out]; rfl
      clear HADR
      go_wp2_with fail
      refine (C3.out w8).mono ?_
      rintro e w9 ⟨rfl, rfl⟩
      go_wp2_with fail
      refine (C4.out w8 L8).mono ?_
      rintro e w9 ⟨rfl, rfl⟩
      go_wp2_with fail
      go_ret
      exact ⟨by simp, hb8'⟩

end Go.Proofs.Qxb6615015a
