/-
  A lockset of few in memory: many (34), sorted (27), len (25), appendRange (24), appendLocks (21).
-/
import Derived.Test.Qxb6605816aClone
import Derived.Deep.AppendLies
import Derived.Laws.AppendOwnNone
namespace Go.Proofs.Qxb6605816a
open Go.RowKit

set_option maxHeartbeats 400000 in
theorem many_few (sb m C : Nat) (A : Option Addr) (w : World) (hm : m ≤ 32) (hc : w.cell? ⟨sb, 0, none⟩ = some (.slice A m C)) :
    Calls Try.prog 34 #[.pointer (some ⟨sb, 0, none⟩)] w fun e w' => e = .returned (.bool false) ∧ w = w' := by
  have hm' : ¬ (32 : Int) < (m : Int) := by omega
  go_enter Try.func34, Try.ntmps34
  go_wp2
  go_ret
  exact ⟨rfl, rfl⟩

set_option maxHeartbeats 400000 in
theorem sorted_nil (w : World) :
    Calls Try.prog 27 #[.pointer none] w fun e w' => e = .returned (.tuple #[.slice none 0 0, .bool true]) ∧ w = w' := by
  go_enter Try.func27, Try.ntmps27
  go_wp2
  go_ret2
  exact ⟨rfl, rfl⟩

set_option maxHeartbeats 400000 in
theorem sorted_few (sb m C : Nat) (A : Option Addr) (w : World) (hm : m ≤ 32) (hc : w.cell? ⟨sb, 0, none⟩ = some (.slice A m C)) :
    Calls Try.prog 27 #[.pointer (some ⟨sb, 0, none⟩)] w fun e w' => e = .returned (.tuple #[.slice A m C, .bool true]) ∧ w = w' := by
  have hC := hide' (many_few sb m C A w hm hc)
  go_enter Try.func27, Try.ntmps27
  go_wp2_with (go_at_call 34; refine hC.out.mono ?_; rintro e w' ⟨rfl, rfl⟩)
  go_ret2
  exact ⟨rfl, rfl⟩

set_option maxHeartbeats 400000 in
theorem len_nil (w : World) :
    Calls Try.prog 25 #[.pointer none] w fun e w' => e = .returned (.int .i64 0) ∧ w = w' := by
  go_enter Try.func25, Try.ntmps25
  go_wp2_with (go_at_call 27; refine (sorted_nil _).mono ?_; rintro e w' ⟨rfl, rfl⟩)
  go_ret
  exact ⟨rfl, rfl⟩

set_option maxHeartbeats 400000 in
theorem len_few (sb m C : Nat) (A : Option Addr) (w : World) (hm : m ≤ 32) (hc : w.cell? ⟨sb, 0, none⟩ = some (.slice A m C)) :
    Calls Try.prog 25 #[.pointer (some ⟨sb, 0, none⟩)] w fun e w' => e = .returned (.int .i64 m) ∧ w = w' := by
  have hC := hide' (sorted_few sb m C A w hm hc)
  go_enter Try.func25, Try.ntmps25
  go_wp2_with (go_at_call 27; refine hC.out.mono ?_; rintro e w' ⟨rfl, rfl⟩)
  go_ret
  exact ⟨rfl, rfl⟩

/-- append(dst, nil[0:0]...): dst itself. -/
theorem range_nil (v : Value) (k base : Nat) (xs : List Value) (w : World) (hown : w.ownsRow base 3 1 v k xs) :
    Calls Try.prog 24 #[.pointer none, v, .int .i64 0, .int .i64 0] w fun e w' => e = .returned v ∧ w = w' := by
  obtain ⟨i, hi, hz0, hz1, hz2⟩ := info_parts Try.info3
  go_enter Try.func24, Try.ntmps24
  go_wp2_with (first
    | (go_at_call 27; refine (sorted_nil _).mono ?_; rintro e w' ⟨rfl, rfl⟩)
    | (at_builtin; refine wpList_append_own_none rfl (.tmp 18) (.tmp 22) 22 rfl base 3 i 1 Try.underlying22 hi v k xs rfl hown rfl ?_))
  go_ret
  exact ⟨rfl, rfl⟩

set_option maxHeartbeats 400000 in
theorem range_fits (sb m C : Nat) (A : Option Addr) (gl k cap base : Nat) (xs : List Value) (zs : List Int) (w : World) (hm : m ≤ 32) (hzl : zs.length = m) (hmC : m ≤ C) (hc : w.cell? ⟨sb, 0, none⟩ = some (.slice A m C)) (hA : ∃ b off, A = some ⟨b, off, none⟩ ∧ Lie w b off zs)
    (hown : w.ownsRow base 3 1 (.slice (some ⟨gl, 0, none⟩) k cap) k xs) (hfit : k + m ≤ cap) :
    Calls Try.prog 24 #[.pointer (some ⟨sb, 0, none⟩), .slice (some ⟨gl, 0, none⟩) k cap, .int .i64 0, .int .i64 m] w fun e w' => e = .returned (.slice (some ⟨gl, 0, none⟩) (k + m) cap) ∧ w'.ownsRow base 3 1 (.slice (some ⟨gl, 0, none⟩) (k + m) cap) (k + m) (xs ++ zs.map (Value.int .i64)) ∧ w.grownBy w' (some gl) := by
  obtain ⟨i, hi, hz0, hz1, hz2⟩ := info_parts Try.info3
  obtain ⟨b, off, rfl, hL⟩ := hA
  have hC := hide' (sorted_few sb m C _ w hm hc)
  obtain ⟨news, hnews⟩ : ∃ news, news = zs.map (Value.int .i64) := ⟨_, rfl⟩
  have HNL : Hid (news.length = m * 1) := by show _ = _; rw [hnews]; simpa using hzl
  have HN1 : Hid (∀ u ∈ news, u.oneCell' = true) := by show ∀ u ∈ news, _; rw [hnews]; exact ints_oneCell _ _
  have HSRC : Hid (∀ j u, news[j]? = some u → w.cell? ((⟨b, off, none⟩ : Addr).add j) = some u) := by
    show ∀ j u, _
    intro j u hu
    rw [hnews] at hu
    have hj : j < zs.length := by
      have := (List.getElem?_eq_some_iff.1 hu).1
      simpa using this
    rw [Addr.add_lit, hL.2 j hj, ← hu]
    simp [hj]
  rw [← hnews]
  have k1 : (m : Int) ≤ (C : Int) := by omega
  clear hc hL hnews
  go_enter Try.func24, Try.ntmps24
  go_wp2_with (first
    | (go_at_call 27; refine hC.out.mono ?_; rintro e w' ⟨rfl, rfl⟩)
    | (at_builtin; refine wpList_append_fits _ rfl (.tmp 18) (.tmp 22) 22 rfl base 3 i 1 Try.underlying22 hi hz1 gl k cap xs rfl hown ⟨b, off, none⟩ m C news rfl HNL.out HSRC.out HN1.out hfit ?_; intro w2 hown2 hgr2))
  go_ret
  exact ⟨rfl, hown2, hgr2⟩

set_option maxHeartbeats 400000 in
theorem range_lies (sb m C : Nat) (A : Option Addr) (v : Value) (k base : Nat) (xs : List Value) (zs : List Int) (w : World) (hm : m ≤ 32) (hm0 : 0 < m) (hzl : zs.length = m) (hmC : m ≤ C) (hc : w.cell? ⟨sb, 0, none⟩ = some (.slice A m C)) (hA : ∃ b off, A = some ⟨b, off, none⟩ ∧ Lie w b off zs)
    (hown : w.ownsRow base 3 1 v k xs) (hk : k ≤ 1073741824) (hbase : base ≤ w.heap.size) :
    Calls Try.prog 24 #[.pointer (some ⟨sb, 0, none⟩), v, .int .i64 0, .int .i64 m] w fun e w' => ∃ g cap, e = .returned (.slice (some ⟨g, 0, none⟩) (k + m) cap) ∧ w'.ownsRow base 3 1 (.slice (some ⟨g, 0, none⟩) (k + m) cap) (k + m) (xs ++ zs.map (Value.int .i64)) ∧ w.grownBy w' v.ownBlock := by
  obtain ⟨i, hi, hz0, hz1, hz2⟩ := info_parts Try.info3
  obtain ⟨b, off, rfl, hL⟩ := hA
  have hC := hide' (sorted_few sb m C _ w hm hc)
  obtain ⟨news, hnews⟩ : ∃ news, news = zs.map (Value.int .i64) := ⟨_, rfl⟩
  have HNL : Hid (news.length = m * 1) := by show _ = _; rw [hnews]; simpa using hzl
  have HN1 : Hid (∀ u ∈ news, u.oneCell' = true) := by show ∀ u ∈ news, _; rw [hnews]; exact ints_oneCell _ _
  have HSRC : Hid (∀ j u, news[j]? = some u → w.cell? ((⟨b, off, none⟩ : Addr).add j) = some u) := by
    show ∀ j u, _
    intro j u hu
    rw [hnews] at hu
    have hj : j < zs.length := by
      have := (List.getElem?_eq_some_iff.1 hu).1
      simpa using this
    rw [Addr.add_lit, hL.2 j hj, ← hu]
    simp [hj]
  rw [← hnews]
  have k1 : (m : Int) ≤ (C : Int) := by omega
  clear hc hL hnews
  go_enter Try.func24, Try.ntmps24
  go_wp2_with (first
    | (go_at_call 27; refine hC.out.mono ?_; rintro e w' ⟨rfl, rfl⟩)
    | (at_builtin; refine wpList_append_lies _ rfl (.tmp 18) (.tmp 22) 22 rfl base 3 i (.int .i64 0) 1 8 Try.underlying22 hi hz0 hz1 hz2 rfl (by decide) v k xs rfl hown ⟨b, off, none⟩ m C news rfl HNL.out HSRC.out HN1.out hm0 (by unfold maxLen; omega) (by omega) hbase _ rfl ?_; intro g2 cap2 w2 hown2 hgr2 hat2 hlt2))
  go_ret
  exact ⟨g2, cap2, rfl, hown2, hgr2⟩

/-! ### appendLocks (21) -/
set_option maxHeartbeats 400000 in
theorem locks_nil (v : Value) (k base : Nat) (xs : List Value) (w : World) (hown : w.ownsRow base 3 1 v k xs) :
    Calls Try.prog 21 #[.pointer none, v, .int .i64 0] w fun e w' => e = .returned v ∧ w = w' := by
  have hC := hide' (range_nil v k base xs w hown)
  clear hown
  go_enter Try.func21, Try.ntmps21
  go_wp2_with (first
    | (go_at_call 25; refine (len_nil _).mono ?_; rintro e w' ⟨rfl, rfl⟩)
    | (go_at_call 24; refine hC.out.mono ?_; rintro e w' ⟨rfl, rfl⟩))
  go_ret
  exact ⟨rfl, rfl⟩

set_option maxHeartbeats 400000 in
theorem locks_some (sb m C : Nat) (A : Option Addr) (v : Value) (w : World) (Q : Value → World → Prop) (hm : m ≤ 32) (hc : w.cell? ⟨sb, 0, none⟩ = some (.slice A m C))
    (hR : Calls Try.prog 24 #[.pointer (some ⟨sb, 0, none⟩), v, .int .i64 0, .int .i64 m] w fun e w' => ∃ u, e = .returned u ∧ Q u w') :
    Calls Try.prog 21 #[.pointer (some ⟨sb, 0, none⟩), v, .int .i64 0] w fun e w' => ∃ u, e = .returned u ∧ Q u w' := by
  have hL := hide' (len_few sb m C A w hm hc)
  have HR := hide' hR
  clear hR hc
  go_enter Try.func21, Try.ntmps21
  go_wp2_with (first
    | (go_at_call 25; refine hL.out.mono ?_; rintro e w' ⟨rfl, rfl⟩)
    | (go_at_call 24; refine HR.out.mono ?_; rintro e w2 ⟨u, rfl, hQ⟩))
  go_ret
  exact ⟨u, rfl, hQ⟩

end Go.Proofs.Qxb6605816a
