/-
  (*hotPath).reserve (26), with nothing in front.
-/
import Derived.Test.Qxb6605816aPath0
import Derived.Outline
import Derived.RegionTactic
import Derived.Deep.QuietTactic
import Derived.BigQuiet
import Derived.Deep.RegionHeldLaw
import Derived.Laws.CopyOwn
namespace Go.Proofs.Qxb6605816a
open Go.RowKit

set_option maxHeartbeats 400000 in
theorem reserve_room (w : World) (hp g M f e n : Nat) (T : List Int) (H : Path w hp g M f e T) (hn : e + n ≤ M) :
    Calls Try.prog 26 #[.pointer (some ⟨hp, 0, none⟩), .int .i64 0, .int .i64 n] w fun r w' => r = .returned (.tuple #[]) ∧ ∃ q, w' = w.drewN q := by
  have h0 := H.c0
  have h1 := H.c1
  have h2 := H.c2
  have hb := H.big
  have hf0 : (0 : Int) ≤ (f : Int) := by omega
  have hr : (n : Int) ≤ (M : Int) - (e : Int) := by omega
  clear H
  go_enter Try.func26, Try.ntmps26
  go_wp2
  go_quiet (fail)
  go_wp2
  exact bodyPost_ret (v := .tuple #[]) (results_none Try.results26 _ _ _) rfl ⟨rfl, _, rfl⟩

theorem own_block3 {w : World} {base g n : Nat} {xs : List Value} (h : w.ownsRow base 3 1 (.slice (some ⟨g, 0, none⟩) n n) n xs) :
    ∃ cur : List Value, Hid (w.heap[g]? = some (.cells cur.toArray 3 (0, 0))) ∧ Hid (cur = xs) := by
  have hl : xs.length = n := by simpa using h.1
  obtain ⟨_, h2⟩ := h
  rcases h2 with ⟨h2, _⟩ | ⟨g', cap, cur, hv, hg, hh, _, _, hsz, ht⟩
  · cases h2
  · cases hv
    refine ⟨cur.toList, (show _ = _ by simpa using hh), (show _ = _ from ?_)⟩
    rw [← ht, List.take_of_length_le (by simp; omega)]

theorem Path.lt {w : World} {hp g M f e : Nat} {T : List Int} (h : Path w hp g M f e T) : hp < w.heap.size := (Array.getElem?_eq_some_iff.1 h.str).1
theorem Path.glt {w : World} {hp g M f e : Nat} {T : List Int} (h : Path w hp g M f e T) : g < w.heap.size := by
  obtain ⟨cur, hc, _⟩ := h.row
  exact (Array.getElem?_eq_some_iff.1 hc).1
theorem Path.take_cells {w : World} {hp g M f L : Nat} {T : List Int} (h : Path w hp g M f (f + L) T) :
    ∃ cs : List Value, Hid (cs = T.map (Value.int .i64)) ∧ Hid (cs.length = L) ∧ Hid (∀ v ∈ cs, v.oneCell' = true) ∧ Hid (∀ j v, cs[j]? = some v → w.cell? ⟨g, f + j, none⟩ = some v) := by
  have hl := h.len
  obtain ⟨cur, hc, hcl, hT⟩ := h.row
  have heM := h.eM
  refine ⟨_, rfl, (show _ = _ by simp; omega), (show ∀ v ∈ _, _ from ints_oneCell _ _), (show ∀ j v, _ from ?_)⟩
  intro j v hv
  have hj : j < L := by
    have := (List.getElem?_eq_some_iff.1 hv).1
    simp at this; omega
  rw [cell_of_heap hc, ← hv, ← hT]
  simp only [List.getElem?_toArray, List.getElem?_map, List.getElem?_take, List.getElem?_drop]
  rw [if_pos (by omega)]

theorem src_later {w w1 : World} {hp g M f e : Nat} {T : List Int} {cs : List Value} (hb : Below w.heap.size w w1) (H : Hid (Path w hp g M f e T)) (h : Hid (∀ j v, cs[j]? = some v → w.cell? ⟨g, f + j, none⟩ = some v)) :
    ∀ j v, cs[j]? = some v → w1.cell? ((⟨g, f, none⟩ : Addr).add j) = some v := fun j v hv => by
  rw [Addr.add_lit]
  exact (hb.cell (p := ⟨g, f + j, none⟩) H.out.glt).trans (h.out j v hv)

/-- Behind reserve: the same trunk, L nodes, with room for n more. -/
def Reserved (w w' : World) (hp g L n : Nat) (T : List Int) : Prop :=
  w.grownBy w' (some hp) ∧ ∃ g' M' f', Path w' hp g' M' f' (f' + L) T ∧ f' + L + n ≤ M' ∧ (g' = g ∨ w.heap.size ≤ g')

theorem heap_stored3 {w : World} {hp : Nat} {c0 c1 c2 c3 c4 c5 c6 : Value} {t : TypeId} (h : w.heap[hp]? = some (.cells #[c0, c1, c2, c3, c4, c5, c6] t (0, 0))) (v0 v1 v2 : Value) :
    (((w.setCell ⟨hp, 0, none⟩ v0).setCell ⟨hp, 1, none⟩ v1).setCell ⟨hp, 2, none⟩ v2).heap[hp]? = some (.cells #[v0, v1, v2, c3, c4, c5, c6] t (0, 0)) := by
  have h1 := heap_setCell_same w hp 0 _ t v0 h
  have h2 := heap_setCell_same _ hp 1 _ t v1 h1
  have h3 := heap_setCell_same _ hp 2 _ t v2 h2
  simpa using h3

theorem path_moved {w w2 : World} {hp g M f L n S : Nat} {T : List Int} (H : Path w hp g M f (f + L) T) (hb : Below w.heap.size w w2)
    (hG : w2.heap[w.heap.size]? = some (.cells (splice (madeCells (Value.int .i64 0).cells (S * 1)).toList (L + n) (T.map (Value.int .i64))).toArray 3 (0, 0))) (hS1 : L + n + L < S) (hS2 : S ≤ 16777216) (hS3 : L + n + L + n ≤ S) :
    Reserved w (((w2.setCell ⟨hp, 0, none⟩ (.slice (some ⟨w.heap.size, 0, none⟩) S S)).setCell ⟨hp, 1, none⟩ (.int .i64 ((L : Int) + (n : Int)))).setCell ⟨hp, 2, none⟩ (.int .i64 ((L : Int) + (n : Int) + (L : Int)))) hp g L n T := by
  have hl : T.length = L := by have := H.len; omega
  have hpl := H.lt
  have hstr : w2.heap[hp]? = some (.cells (pathCells g M f (f + L)) 52 (0, 0)) := (hb.block hp hpl).trans H.str
  have hst := heap_stored3 hstr (.slice (some ⟨w.heap.size, 0, none⟩) S S) (.int .i64 ((L : Int) + (n : Int))) (.int .i64 ((L : Int) + (n : Int) + (L : Int)))
  have hoth : ∀ k, k ≠ hp → (((w2.setCell ⟨hp, 0, none⟩ (.slice (some ⟨w.heap.size, 0, none⟩) S S)).setCell ⟨hp, 1, none⟩ (.int .i64 ((L : Int) + (n : Int)))).setCell ⟨hp, 2, none⟩ (.int .i64 ((L : Int) + (n : Int) + (L : Int)))).heap[k]? = w2.heap[k]? := fun k hk => by
    rw [Below.heap_setCell _ _ _ _ hk, Below.heap_setCell _ _ _ _ hk, Below.heap_setCell _ _ _ _ hk]
  refine ⟨⟨hb.os, hb.tape, hb.output, by simpa [World.setCell] using hb.size, fun k hk hne => ?_⟩, w.heap.size, S, L + n, ⟨?_, ?_, by omega, by omega, by omega⟩, by omega, .inr (Nat.le_refl _)⟩
  · rw [hoth k (fun e => hne (by rw [e])), hb.block k hk]
  · rw [hst]
    simp only [pathCells, Int.natCast_add]
  · refine ⟨splice (List.replicate S 0) (L + n) T, ?_, ?_, ?_⟩
    · rw [hoth _ (by omega), hG]
      have e1 : (madeCells (Value.int .i64 0).cells (S * 1)).toList = (List.replicate S (0 : Int)).map (Value.int .i64) := by
        rw [show (Value.int .i64 0).cells = #[Value.int .i64 0] from rfl, toList_madeCells_one]
        simp
      rw [e1]
      simp [splice]
    · rw [length_splice _ _ _ (by simp; omega)]; simp
    · unfold splice
      rw [show L + n + L - (L + n) = L from by omega, List.drop_left' (by simp; omega), List.take_left' hl]

theorem grownBy_drewN (w : World) (q : Nat) (r : Option Nat) : w.grownBy (w.drewN q) r := ⟨rfl, rfl, rfl, Nat.le_refl _, fun _ _ _ => rfl⟩

set_option maxHeartbeats 1000000 in
theorem reserve_grow (w : World) (hp g M f L n : Nat) (T : List Int) (H : Path w hp g M f (f + L) T) (hL0 : 0 < L) (hn : M < f + L + n) (hnb : n ≤ 1048576) (hLb : L ≤ 1048576) :
    Calls Try.prog 26 #[.pointer (some ⟨hp, 0, none⟩), .int .i64 0, .int .i64 n] w fun r w' => r = .returned (.tuple #[]) ∧ Reserved w w' hp g L n T := by
  have h0 := H.c0
  have h1 := H.c1
  have h2 := H.c2
  rw [show ((f + L : Nat) : Int) = (f : Int) + (L : Int) from by omega] at h2
  have hb := H.big
  have heM := H.eM
  have hl := H.len
  have hf0 : (0 : Int) ≤ (f : Int) := by omega
  have hr : decide ((n : Int) ≤ (M : Int) - ((f : Int) + (L : Int))) = false := decide_eq_false (by omega)
  obtain ⟨i, hi, hz0, hz1, hz2⟩ := info_parts Try.info3
  have hisz : (Try.prog.info? 3).map (·.size) = some 1 := by rw [hi]; simp [hz1]
  have HH := hide' H
  have HL := hide' hl
  obtain ⟨S, hS⟩ : ∃ S, S = 3 * L + 2 * n := ⟨_, rfl⟩
  have HS := hide' hS
  have hS1 : L + n + L < S := by omega
  have hS2 : S ≤ 16777216 := by omega
  have hfl : (f : Int) + (L : Int) - (f : Int) = (L : Int) := by omega
  clear H hl hS
  go_enter Try.func26, Try.ntmps26
  go_wp2
  go_quiet (fail)
  go_wp2
  go_quiet (fail)
  go_wp2_with (at_make; refine wpList_make_full _ rfl _ _ 22 rfl w.heap.size 3 i _ 1 Try.underlying22 hi hz0 hz1 _ _ _ _ S rfl rfl (by have := HS.out; omega) (by have := HS.out; omega) (by rw [hz2]; omega) (by unfold maxLen; omega) (by simp) ?_; intro w1 hown hgr)
  have hb1 : Below w.heap.size w w1 := (below_drewN (Below.refl _ _) _).grown hgr (by simp) (fun k hk => by cases hk)
  obtain ⟨cur1, HG1, HN1⟩ := own_block3 hown
  obtain ⟨cs, hC1, hC2, hC3, hC4⟩ := HH.out.take_cells
  have hp0 := (hb1.cell (p := ⟨hp, 0, none⟩) HH.out.lt).trans h0
  have hp1 := (hb1.cell (p := ⟨hp, 1, none⟩) HH.out.lt).trans h1
  have hp2 := (hb1.cell (p := ⟨hp, 2, none⟩) HH.out.lt).trans h2
  have H0 := hide' h0
  have H1 := hide' h1
  have H2 := hide' h2
  have hpl := HH.out.lt
  clear hown hgr h0 h1 h2
  have t1 : ((L : Int) + (n : Int)).toNat = L + n := by omega
  have t2 : ((f : Int) + (L : Int)).toNat = f + L := by omega
  have t3 : ¬ S = L + n := by omega
  have t4 : ¬ M = f := by omega
  have t5 : f + L - f = L := by omega
  have k1 : (L : Int) + (n : Int) ≤ (S : Int) := by omega
  have k2 : (f : Int) + (L : Int) ≤ (M : Int) := by omega
  have k3 : (f : Int) ≤ (M : Int) := by omega
  have k4 : (f : Int) ≤ (f : Int) + (L : Int) := by omega
  have k5 : 0 ≤ (L : Int) + (n : Int) := by omega
  have k6 : 0 ≤ (f : Int) + (L : Int) := by omega
  go_region_held_law (fun w' => w'.cell? ⟨hp, 0, none⟩ = some (.slice (some ⟨g, 0, none⟩) M M) ∧ w'.cell? ⟨hp, 1, none⟩ = some (.int .i64 f) ∧ w'.cell? ⟨hp, 2, none⟩ = some (.int .i64 ((f : Int) + (L : Int)))) (go_keep) ((refine step_copy_splice rfl (.tmp 51) (.tmp 64) 22 22 rfl 3 Try.underlying22 hisz (some ⟨w.heap.size, L + n, none⟩) (some ⟨g, f, none⟩) (S - (L + n)) (S - (L + n)) L (M - f) rfl rfl w.heap.size (L + n) cur1 3 HG1.out cs (by rw [hC2.out]; exact (Nat.min_eq_left (by omega)).symm) (fun _ => ⟨rfl, _, rfl, src_later hb1.drew HH hC4⟩) (by rw [hC2.out, HN1.out]; simp [madeCells]; omega) hC3.out w.heap.size w hb1.drew (Nat.le_refl _) ?_; intro w2 HG2 hb2; have q0 := (hb2.cell (p := ⟨hp, 0, none⟩) hpl).trans H0.out; have q1 := (hb2.cell (p := ⟨hp, 1, none⟩) hpl).trans H1.out; have q2 := (hb2.cell (p := ⟨hp, 2, none⟩) hpl).trans H2.out))
  have z0 := (hb2.frozen (p := ⟨hp, 0, none⟩) hpl).trans (HH.out.fz 0)
  have z1 := (hb2.frozen (p := ⟨hp, 1, none⟩) hpl).trans (HH.out.fz 1)
  have z2 := (hb2.frozen (p := ⟨hp, 2, none⟩) hpl).trans (HH.out.fz 2)
  have HR := hide' (path_moved HH.out hb2 (by rw [HG2.out, HN1.out, hC1.out]) hS1 hS2 (by have := HS.out; omega))
  clear HG2 HG1 HN1 hp0 hp1 hp2 H0 H1 H2 hC1 hC2 hC3 hC4
  go_wp2
  go_end0
  exact ⟨rfl, HR.out⟩

theorem reserve_any (w : World) (hp g M f L n : Nat) (T : List Int) (H : Path w hp g M f (f + L) T) (hL0 : 0 < L) (hnb : n ≤ 1048576) (hLb : L ≤ 1048576) :
    Calls Try.prog 26 #[.pointer (some ⟨hp, 0, none⟩), .int .i64 0, .int .i64 n] w fun r w' => r = .returned (.tuple #[]) ∧ Reserved w w' hp g L n T := by
  by_cases hn : f + L + n ≤ M
  · refine (reserve_room w hp g M f (f + L) n T H hn).mono fun r w' ⟨hr, q, hw⟩ => ⟨hr, ?_⟩
    subst hw
    exact ⟨grownBy_drewN w q _, g, M, f, ⟨H.str, H.row, H.fe, H.eM, H.big⟩, hn, .inl rfl⟩
  · exact reserve_grow w hp g M f L n T H hL0 (by omega) hnb hLb
end Go.Proofs.Qxb6605816a
