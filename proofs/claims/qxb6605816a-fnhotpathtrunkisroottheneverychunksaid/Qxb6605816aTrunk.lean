/-
  (*hotPath).appendTrunk (23), ZZappendTrunk (18).
-/
import Derived.Test.Qxb6605816aReserve
namespace Go.Proofs.Qxb6605816a
open Go.RowKit

/-- copy(dst, src) inside a region that draws its order, dst in a row that is known whole: only that row turns. (The kit's 'step_copy_splice' says of the world 'Below' alone.) -/
theorem step_copy_grown {P : Program} {ops : Array Oper} {o : Oper} {a : Act} {w : World} {K : Act → World → Prop} {Q : Exit → Act → World → Prop} {E : Prop} (hgd : o.guard = none) (d s : Operand) (dT sT : TypeId)
    (ho : o.op = .call { callee := .builtin .copy, args := #[d, s], argTypes := #[dT, sT] }) (elem : TypeId) (hu : P.underlying dT = some (.slice elem)) (hsz : (P.info? elem).map (·.size) = some 1)
    (dp sp : Option Addr) (dLen dCap sLen sCap : Nat) (hd : a.eval d = .slice dp dLen dCap) (hs : a.eval s = .slice sp sLen sCap)
    (g off : Nat) (cur : List Value) (t : TypeId) (hg : w.heap[g]? = some (.cells cur.toArray t (0, 0))) (cs : List Value) (hn : cs.length = Nat.min sLen dLen)
    (hpos : 0 < cs.length → dp = some ⟨g, off, none⟩ ∧ ∃ ad, sp = some ad ∧ ∀ j v, cs[j]? = some v → w.cell? (ad.add j) = some v)
    (hfit : off + cs.length ≤ cur.length) (h1 : ∀ v ∈ cs, v.oneCell' = true)
    (h : ∀ w', Hid (w'.heap[g]? = some (.cells (splice cur off cs).toArray t (0, 0))) → w.grownBy w' (some g) → K (a.put o.dst (goInt cs.length)) w') :
    if Region.wanted o (yielded ops a.tmps) = true then Oper.wp P o a w K Q else E := by
  have hw : Region.wanted o (yielded ops a.tmps) = true := by simp [Region.wanted, hgd]
  rw [if_pos hw]
  by_cases h0 : cs.length = 0
  · obtain rfl : cs = [] := List.eq_nil_of_length_eq_zero h0
    have hrun := run_copy_none (P := P) w dT sT o.type elem dp sp dLen dCap sLen sCap hu hsz (by simpa using hn.symm)
    unfold Oper.wp
    simp [execOp, ho, resolve, invoke, builtin, hd, hs, hrun, Result.andThen]
    exact h w (show _ = _ by simpa [splice] using hg) (World.grownBy.refl _ _)
  · obtain ⟨rfl, ad, rfl, hsrc⟩ := hpos (by omega)
    have hrun := run_copy_row (P := P) w dT sT o.type elem g off dLen dCap ad sLen sCap cur.toArray t cs hu hsz hg hn hsrc (by simpa using hfit) h1
    unfold Oper.wp
    simp [execOp, ho, resolve, invoke, builtin, hd, hs, hrun, Result.andThen]
    exact h _ (show _ = _ by simpa [splice] using setRow_heap w g _ _ t _ hg) ⟨rfl, rfl, rfl, by simp [World.setRow], fun k _ hk => setRow_other w g k _ (fun e => hk (by rw [e]))⟩

/-- What appendTrunk leaves: only the blocks hp and g of the old ones have turned. -/
def Trunked (w w' : World) (hp g L : Nat) (T : List Int) : Prop :=
  w'.os = w.os ∧ w'.tape = w.tape ∧ w'.output = w.output ∧ w.heap.size ≤ w'.heap.size ∧ (∀ k, k < w.heap.size → k ≠ hp → k ≠ g → w'.heap[k]? = w.heap[k]?) ∧
  ∃ g' M' f', Path w' hp g' M' f' (f' + L) T ∧ (g' = g ∨ w.heap.size ≤ g')

theorem heap_stored24 {w : World} {hp : Nat} {c0 c1 c2 c3 c4 c5 c6 : Value} {t : TypeId} (h : w.heap[hp]? = some (.cells #[c0, c1, c2, c3, c4, c5, c6] t (0, 0))) (v2 v4 : Value) :
    ((w.setCell ⟨hp, 2, none⟩ v2).setCell ⟨hp, 4, none⟩ v4).heap[hp]? = some (.cells #[c0, c1, v2, c3, v4, c5, c6] t (0, 0)) := by
  have h1 := heap_setCell_same w hp 2 _ t v2 h
  have h2 := heap_setCell_same _ hp 4 _ t v4 h1
  simpa using h2

theorem splice_window (cur zs T : List Int) (f L : Nat) (hfit : f + L + zs.length ≤ cur.length) (hT : (cur.drop f).take L = T) :
    ((splice cur (f + L) zs).drop f).take (L + zs.length) = T ++ zs := by
  unfold splice
  rw [List.drop_append_of_le_length (by simp; omega), ← hT]
  have h1 : (List.take (f + L) cur).drop f = (cur.drop f).take L := by rw [List.drop_take, show f + L - f = L from by omega]
  rw [h1]
  have h2 : ((cur.drop f).take L).length = L := by simp; omega
  rw [← List.append_assoc, List.take_left' (by simp; omega)]

/-- What appendTrunk has done, out of its two stores and the copy. -/
theorem trunk_done {w w1 w2 : World} {hp g g1 M f L : Nat} {T zs : List Int} (hR : w.grownBy w1 (some hp)) (hg : g1 = g ∨ w.heap.size ≤ g1) (H : Path w1 hp g1 M f (f + L) T) (hM : f + L + zs.length ≤ M) {cur : List Int}
    (hcl : cur.length = M) (hT : (cur.drop f).take (f + L - f) = T) (h2 : w2.heap[g1]? = some (.cells (splice (cur.map (Value.int .i64)) (f + L) (zs.map (Value.int .i64))).toArray 3 (0, 0))) (hgr : w1.grownBy w2 (some g1)) {v : Int} (hv : v = (f : Int) + (L : Int) + (zs.length : Int)) :
    Trunked w ((w2.setCell ⟨hp, 2, none⟩ (.int .i64 v)).setCell ⟨hp, 4, none⟩ (.slice none 0 0)) hp g (L + zs.length) (T ++ zs) := by
  have hne := H.ne
  have hstr : w2.heap[hp]? = some (.cells (pathCells g1 M f (f + L)) 52 (0, 0)) := (hgr.block hp H.lt (by simpa using hne)).trans H.str
  have hst := heap_stored24 hstr (.int .i64 v) (.slice none 0 0)
  have hoth : ∀ k, k ≠ hp → ((w2.setCell ⟨hp, 2, none⟩ (.int .i64 v)).setCell ⟨hp, 4, none⟩ (.slice none 0 0)).heap[k]? = w2.heap[k]? := fun k hk => by
    rw [Below.heap_setCell _ _ _ _ hk, Below.heap_setCell _ _ _ _ hk]
  refine ⟨hgr.os.trans hR.os, hgr.tape.trans hR.tape, hgr.output.trans hR.output, Nat.le_trans (Nat.le_trans hR.size hgr.size) (by simp [World.setCell]), fun k hk h1 h2 => ?_, g1, M, f, ⟨?_, ?_, by omega, by omega, H.big⟩, hg⟩
  · rw [hoth k h1, hgr.block k (Nat.lt_of_lt_of_le hk hR.size) (by simp; rcases hg with rfl | hg; exact h2; omega), hR.block k hk (by simpa using h1)]
  · rw [hst, hv]
    simp only [pathCells, Int.natCast_add, Int.add_assoc]
  · refine ⟨splice cur (f + L) zs, ?_, ?_, ?_⟩
    · rw [hoth _ hne.symm, h2]
      simp [splice]
    · rw [length_splice _ _ _ (by omega), hcl]
    · rw [show f + (L + zs.length) - f = L + zs.length from by omega]
      rw [show f + L - f = L from by omega] at hT
      exact splice_window cur zs T f L (by omega) hT

theorem lie_grown {w w' : World} {b off : Nat} {zs : List Int} {r : Nat} (h : Lie w b off zs) (hg : w.grownBy w' (some r)) (hb : b ≠ r) : Lie w' b off zs :=
  ⟨Nat.lt_of_lt_of_le h.1 hg.size, fun j hj => (World.cell?_of_block (hg.block b h.1 (by simpa using hb))).trans (h.2 j hj)⟩

theorem lie_src {w : World} {b off : Nat} {zs : List Int} (h : Lie w b off zs) : ∀ j v, (zs.map (Value.int .i64))[j]? = some v → w.drew.cell? ((⟨b, off, none⟩ : Addr).add j) = some v := by
  intro j v hv
  have hj : j < zs.length := by
    have := (List.getElem?_eq_some_iff.1 hv).1
    simpa using this
  rw [Addr.add_lit]
  show w.cell? _ = _
  rw [h.2 j hj, ← hv]
  simp [hj]

set_option maxHeartbeats 1000000 in
theorem append_any (w : World) (hp g M f L c n : Nat) (A : Option Addr) (zs : List Int) (T : List Int) (H : Path w hp g M f (f + L) T) (hL0 : 0 < L) (hn : zs.length = n)
    (hsrc : zs = [] ∨ ∃ b off, A = some ⟨b, off, none⟩ ∧ b ≠ hp ∧ b ≠ g ∧ Lie w b off zs) (hnb : n ≤ 1048576) (hLb : L ≤ 1048576) :
    Calls Try.prog 23 #[.pointer (some ⟨hp, 0, none⟩), .slice A n c] w fun r w' => r = .returned (.tuple #[]) ∧ Trunked w w' hp g (L + n) (T ++ zs) := by
  have hres := reserve_any w hp g M f L n T H hL0 hnb hLb
  obtain ⟨i, hi, hz0, hz1, hz2⟩ := info_parts Try.info3
  have hisz : (Try.prog.info? 3).map (·.size) = some 1 := by rw [hi]; simp [hz1]
  obtain ⟨cs, hcs⟩ : ∃ cs, cs = zs.map (Value.int .i64) := ⟨_, rfl⟩
  have hcsl : cs.length = n := by rw [hcs]; simpa using hn
  have HCS := hide' hcs
  have HCL := hide' hcsl
  have HSRC := hide' hsrc
  have HNZ := hide' hn
  have HHg := hide' H.glt
  clear H hcs hcsl hsrc hn
  go_enter Try.func23, Try.ntmps23
  go_wp2_with (go_at_call 26; refine hres.mono ?_; rintro e w1 ⟨rfl, hR⟩)
  obtain ⟨hgr, g1, M1, f1, H, hM, hg⟩ := hR
  have h0 := H.c0
  have h2 := H.c2
  have h4 := H.c4
  rw [show ((f1 + L : Nat) : Int) = (f1 : Int) + (L : Int) from by omega] at h2
  have hb := H.big
  have hpl := H.lt
  have hpne := H.ne
  obtain ⟨cur, hcur, hcl, hct⟩ := H.row
  have HDONE := hide' (fun w2 h2 hgr2 v hv => trunk_done (w2 := w2) (zs := zs) (v := v) hgr hg H (by rw [HNZ.out]; exact hM) hcl hct h2 hgr2 hv)
  rw [HNZ.out] at HDONE
  have HSRC1 : Hid (0 < cs.length → ∃ ad, A = some ad ∧ ∀ j v, cs[j]? = some v → w1.drew.cell? (ad.add j) = some v) := by
    intro hpos
    rcases HSRC.out with h | ⟨b, off, hA, hb1, hb2, hL⟩
    · rw [HCL.out, ← HNZ.out, h] at hpos; simp at hpos
    · refine ⟨_, hA, ?_⟩
      rw [HCS.out]
      exact lie_src (lie_grown hL hgr hb1)
  obtain ⟨X, hX⟩ : ∃ X, X = cur.map (Value.int .i64) := ⟨_, rfl⟩
  rw [← hX] at hcur
  have HG := hide' hcur
  have HX := hide' hX
  have HXL : Hid (X.length = M1) := by show _ = _; rw [hX]; simpa using hcl
  have H1 : Hid (∀ v ∈ cs, v.oneCell' = true) := by show ∀ v ∈ cs, _; rw [HCS.out]; exact ints_oneCell _ _
  have z2 := H.fz 2
  have z4 := H.fz 4
  have hwr : IntKind.i64.wrap ((f1 : Int) + (L : Int) + (cs.length : Int)) = (f1 : Int) + (L : Int) + (cs.length : Int) := by
    rw [HCL.out, IntKind.wrap_i64]; omega
  have t1 : ((f1 : Int) + (L : Int)).toNat = f1 + L := by omega
  have k1 : (f1 : Int) + (L : Int) ≤ (M1 : Int) := by omega
  have k2 : 0 ≤ (f1 : Int) + (L : Int) := by omega
  have HQ := hide' h0
  have HQ2 := hide' h2
  have HQ4 := hide' h4
  clear hcur hX hct hcl H hgr hg hres
  by_cases t2 : M1 = f1 + L
  · obtain rfl : n = 0 := by omega
    subst t2
    go_region_law ((refine step_copy_grown rfl (.tmp 20) (.tmp 21) 22 22 rfl 3 Try.underlying22 hisz (some ⟨g1, 0, none⟩) A 0 0 0 c rfl rfl g1 (f1 + L) X 3 HG.out cs (by rw [HCL.out]; rfl) (fun hpos => absurd hpos (by rw [HCL.out]; omega)) (by rw [HCL.out, HXL.out]; omega) H1.out ?_; intro w2 HG2 hg2; have q2 := (World.cell?_of_block (a := ⟨hp, 2, none⟩) (hg2.block hp hpl (by simpa using hpne))).trans HQ2.out; have q4 := (World.cell?_of_block (a := ⟨hp, 4, none⟩) (hg2.block hp hpl (by simpa using hpne))).trans HQ4.out; have y2 := (World.frozen?_of_block (a := ⟨hp, 2, none⟩) (hg2.block hp hpl (by simpa using hpne))).trans z2; have y4 := (World.frozen?_of_block (a := ⟨hp, 4, none⟩) (hg2.block hp hpl (by simpa using hpne))).trans z4))
    all_goals
      have HF := hide' (HDONE.out w2 (by rw [HG2.out, HX.out, HCS.out]) ⟨hg2.os, hg2.tape, hg2.output, hg2.size, hg2.block⟩ ((f1 : Int) + (L : Int) + (cs.length : Int)) (by rw [HCL.out]))
      clear HG2 hg2
      go_wp2
      go_end0
      exact ⟨rfl, HF.out⟩
  · go_region_law ((refine step_copy_grown rfl (.tmp 20) (.tmp 21) 22 22 rfl 3 Try.underlying22 hisz (some ⟨g1, f1 + L, none⟩) A (M1 - (f1 + L)) (M1 - (f1 + L)) n c rfl rfl g1 (f1 + L) X 3 HG.out cs (by rw [HCL.out]; exact (Nat.min_eq_left (by omega)).symm) (fun hpos => ⟨rfl, HSRC1.out hpos⟩) (by rw [HCL.out, HXL.out]; omega) H1.out ?_; intro w2 HG2 hg2; have q2 := (World.cell?_of_block (a := ⟨hp, 2, none⟩) (hg2.block hp hpl (by simpa using hpne))).trans HQ2.out; have q4 := (World.cell?_of_block (a := ⟨hp, 4, none⟩) (hg2.block hp hpl (by simpa using hpne))).trans HQ4.out; have y2 := (World.frozen?_of_block (a := ⟨hp, 2, none⟩) (hg2.block hp hpl (by simpa using hpne))).trans z2; have y4 := (World.frozen?_of_block (a := ⟨hp, 4, none⟩) (hg2.block hp hpl (by simpa using hpne))).trans z4))
    all_goals
      have HF := hide' (HDONE.out w2 (by rw [HG2.out, HX.out, HCS.out]) ⟨hg2.os, hg2.tape, hg2.output, hg2.size, hg2.block⟩ ((f1 : Int) + (L : Int) + (cs.length : Int)) (by rw [HCL.out]))
      clear HG2 hg2
      go_wp2
      go_end0
      exact ⟨rfl, HF.out⟩

set_option maxHeartbeats 400000 in
theorem zappend_any (w : World) (hp g M f L c n : Nat) (A : Option Addr) (zs : List Int) (T : List Int) (H : Path w hp g M f (f + L) T) (hL0 : 0 < L) (hn : zs.length = n)
    (hsrc : zs = [] ∨ ∃ b off, A = some ⟨b, off, none⟩ ∧ b ≠ hp ∧ b ≠ g ∧ Lie w b off zs) (hnb : n ≤ 1048576) (hLb : L ≤ 1048576) :
    Calls Try.prog 18 #[.pointer (some ⟨hp, 0, none⟩), .slice A n c] w fun r w' => r = .returned (.tuple #[]) ∧ Trunked w w' hp g (L + n) (T ++ zs) := by
  have hC := hide' (append_any w hp g M f L c n A zs T H hL0 hn hsrc hnb hLb)
  clear H hsrc hn
  go_enter Try.func18, Try.ntmps18
  go_wp2_with (go_at_call 23; refine hC.out.mono ?_; rintro e w1 ⟨rfl, hR⟩)
  go_end0
  exact ⟨rfl, hR⟩

end Go.Proofs.Qxb6605816a
