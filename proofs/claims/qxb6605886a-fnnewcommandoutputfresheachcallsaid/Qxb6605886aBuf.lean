/-
  bytes.NewBufferString (12), ZZnewBuffer (6), (*bytes.Buffer).String (14), ZZbufferText (9), newCommandOutput (13).
-/
import Derived.Test.Qxb6605886aRows
import Derived.WalkKit
import Derived.WalkSpells
import Derived.WalkLawsBesides
import Derived.Laws.IdiomStrings
import Derived.Stop.Asserts
import Derived.WideLaws
import Derived.RegionTactic
import Derived.Deep.QuietTactic
import Derived.BigQuiet
namespace Go.Proofs.Qxb6605886a
open Go.RowKit

theorem hide' {p : Prop} (h : p) : Hid p := h

theorem ta_stat (v : Value) (w : World) : (Instr.typeAssert (.iface 23 v) 34 46 true).run Try.prog w = .ok (.tuple #[.nilIface, .bool false]) w := run_typeAssert_lacksB Try.underlying46 (by kernel_rfl) (by kernel_rfl) v 34 w
theorem ta_stat_nil (w : World) : (Instr.typeAssert .nilIface 34 46 true).run Try.prog w = .ok (.tuple #[.nilIface, .bool false]) w := by kernel_rfl
theorem ta_buf (v : Value) (w : World) : (Instr.typeAssert (.iface 23 v) 34 23 true).run Try.prog w = .ok (.tuple #[v, .bool true]) w := by kernel_rfl
theorem ta_buf_nil (w : World) : (Instr.typeAssert .nilIface 34 23 true).run Try.prog w = .ok (.tuple #[.pointer none, .bool false]) w := by kernel_rfl

/-- A bytes.Buffer at (bb, o) that holds s: its bytes at block g. -/
structure BufAt (w : World) (bb o g cap : Nat) (s : ByteArray) : Prop where
  c0 : w.cell? ⟨bb, o, none⟩ = some (.slice (some ⟨g, 0, none⟩) s.size cap)
  c1 : w.cell? ⟨bb, o + 1, none⟩ = some (.int .i64 0)
  le : s.size ≤ cap
  bytes : ∀ j (hj : j < s.data.toList.length), w.cell? ⟨g, j, none⟩ = some (.int .u8 (s.data.toList[j].toNat : Int))
  bb_lt : bb < w.heap.size
  g_lt : g < w.heap.size

theorem BufAt.later {w w' : World} {bb o g cap : Nat} {s : ByteArray} (h : BufAt w bb o g cap s) (hb : Below w.heap.size w w') : BufAt w' bb o g cap s :=
  ⟨(hb.cell (p := ⟨bb, o, none⟩) h.bb_lt).trans h.c0, (hb.cell (p := ⟨bb, o + 1, none⟩) h.bb_lt).trans h.c1, h.le, fun j hj => (hb.cell (p := ⟨g, j, none⟩) h.g_lt).trans (h.bytes j hj), Nat.lt_of_lt_of_le h.bb_lt hb.size, Nat.lt_of_lt_of_le h.g_lt hb.size⟩

theorem buf_below (w : World) (a b : Obj) : Below w.heap.size w ((w.alloc a).alloc b).drew := (((Below.refl _ _).alloc (Nat.le_refl _) _).alloc (by simp) _).drew
theorem buf_made (w : World) (s : ByteArray) (cap : Nat) (fr : Nat × Nat) (hcap : s.size ≤ cap) :
    BufAt ((w.alloc (.cells (bytesRow s cap) 5 fr)).alloc (.cells #[.slice (some ⟨w.heap.size, 0, none⟩) s.size cap, .int .i64 0, .int .i8 0] 41)).drew (w.heap.size + 1) 0 w.heap.size cap s := by
  have h1 : ((w.alloc (.cells (bytesRow s cap) 5 fr)).alloc (.cells #[.slice (some ⟨w.heap.size, 0, none⟩) s.size cap, .int .i64 0, .int .i8 0] 41)).drew.heap[w.heap.size + 1]? = some (.cells #[.slice (some ⟨w.heap.size, 0, none⟩) s.size cap, .int .i64 0, .int .i8 0] 41 (0, 0)) := by
    show ((w.heap.push _).push _)[w.heap.size + 1]? = _
    simp only [Array.getElem?_push, Array.size_push]
    rw [if_pos trivial]
  have h0 : ((w.alloc (.cells (bytesRow s cap) 5 fr)).alloc (.cells #[.slice (some ⟨w.heap.size, 0, none⟩) s.size cap, .int .i64 0, .int .i8 0] 41)).drew.heap[w.heap.size]? = some (.cells (bytesRow s cap) 5 fr) := by
    show ((w.heap.push _).push _)[w.heap.size]? = _
    simp only [Array.getElem?_push, Array.size_push]
    rw [if_neg (by omega), if_pos trivial]
  refine ⟨by rw [cell_of_row _ _ _ _ _ _ h1]; rfl, by rw [cell_of_row _ _ _ _ _ _ h1]; rfl, hcap, fun j hj => ?_, (Array.getElem?_eq_some_iff.1 h1).1, (Array.getElem?_eq_some_iff.1 h0).1⟩
  rw [cell_of_row _ _ _ _ _ _ h0]
  have hj' : j < s.size := by simpa using hj
  simp [bytesRow, Array.getElem?_append, hj']

set_option maxHeartbeats 400000 in
theorem newBuf_any (s : ByteArray) (w : World) :
    Calls Try.prog 12 #[.string s] w fun e w' => e = .returned (.pointer (some ⟨w.heap.size + 1, 0, none⟩)) ∧ ∃ cap, BufAt w' (w.heap.size + 1) 0 w.heap.size cap s ∧ Below w.heap.size w w' := by
  have hcv := fun (W : World) => run_bytes_of_string (P := Try.prog) W 9 37 5 s Try.underlying9 Try.underlying37 Try.underlying5
  go_enter Try.func12, Try.ntmps12
  go_wp2
  go_ret
  exact ⟨rfl, grownCap w s.size 0 5, buf_made _ _ _ _ (grownCap_ge _ _ _ _), buf_below _ _ _⟩

set_option maxHeartbeats 400000 in
theorem newOut_nil (w : World) :
    Calls Try.prog 13 #[.nilIface] w fun e w' => e = .returned (.pointer (some ⟨w.heap.size, 0, none⟩)) ∧ w' = w.alloc (.cells #[.nilIface, .nilIface, .slice none 0 0, .int .i64 0, .int .i8 0] 43) := by
  have h1 := ta_stat_nil
  go_enter Try.func13, Try.ntmps13
  go_wp2
  go_ret
  exact ⟨rfl, rfl⟩

set_option maxHeartbeats 400000 in
theorem newOut_buf (bb : Nat) (w : World) :
    Calls Try.prog 13 #[.iface 23 (.pointer (some ⟨bb, 0, none⟩))] w fun e w' => e = .returned (.pointer (some ⟨w.heap.size, 0, none⟩)) ∧ w' = w.alloc (.cells #[.iface 23 (.pointer (some ⟨bb, 0, none⟩)), .nilIface, .slice none 0 0, .int .i64 0, .int .i8 0] 43) := by
  have h1 := ta_stat
  go_enter Try.func13, Try.ntmps13
  go_wp2
  go_ret
  exact ⟨rfl, rfl⟩

set_option maxHeartbeats 400000 in
theorem str_any (bb o g cap : Nat) (s : ByteArray) (w : World) (H : BufAt w bb o g cap s) :
    Calls Try.prog 14 #[.pointer (some ⟨bb, o, none⟩)] w fun e w' => e = .returned (.string s) ∧ ∃ q, w' = w.drewN q := by
  have h0 := H.c0
  have h1 := H.c1
  have hle := H.le
  have hcv : ∀ q, (convert 37 9 (.slice (some ⟨g, 0, none⟩) s.size cap)).run Try.prog (w.drewN q) = .ok (.string s) (w.drewN q) := fun q => by
    have := run_convert_bytes_back (P := Try.prog) (w.drewN q) 37 9 5 ⟨g, 0, none⟩ cap s.data.toList Try.underlying37 Try.underlying5 Try.underlying9 (fun j hj => by
      rw [Addr.add_lit, Nat.zero_add]
      exact H.bytes j hj)
    simpa using this
  clear H
  go_enter Try.func14, Try.ntmps14
  go_wp2
  go_quiet (fail)
  go_wp2
  go_ret
  exact ⟨rfl, _, rfl⟩

theorem conv_nil (W : World) : (convert 37 9 (.slice none 0 0)).run Try.prog W = .ok (.string ⟨#[]⟩) W := by
  rw [run_convert_bytes_string (P := Try.prog) W 37 9 5 none 0 0 Try.underlying37 Try.underlying5 Try.underlying9]
  rfl

set_option maxHeartbeats 400000 in
theorem str_nil (bb o : Nat) (w : World) (h0 : w.cell? ⟨bb, o, none⟩ = some (.slice none 0 0)) (h1 : w.cell? ⟨bb, o + 1, none⟩ = some (.int .i64 0)) :
    Calls Try.prog 14 #[.pointer (some ⟨bb, o, none⟩)] w fun e w' => e = .returned (.string ⟨#[]⟩) ∧ ∃ q, w' = w.drewN q := by
  have hcv := conv_nil
  go_enter Try.func14, Try.ntmps14
  go_wp2
  go_quiet (fail)
  go_wp2
  go_ret
  exact ⟨rfl, _, rfl⟩

set_option maxHeartbeats 400000 in
theorem znewBuf_any (s : ByteArray) (w : World) :
    Calls Try.prog 6 #[.string s] w fun e w' => e = .returned (.pointer (some ⟨w.heap.size + 1, 0, none⟩)) ∧ ∃ cap, BufAt w' (w.heap.size + 1) 0 w.heap.size cap s ∧ Below w.heap.size w w' := by
  go_enter Try.func6, Try.ntmps6
  go_wp2_with (go_at_call 12; refine (newBuf_any s _).mono ?_; rintro e w1 ⟨rfl, hB⟩)
  go_ret
  exact ⟨rfl, hB⟩

set_option maxHeartbeats 400000 in
theorem ztext_any (bb g cap : Nat) (s : ByteArray) (w : World) (H : BufAt w bb 0 g cap s) :
    Calls Try.prog 9 #[.pointer (some ⟨bb, 0, none⟩)] w fun e w' => e = .returned (.string s) ∧ ∃ q, w' = w.drewN q := by
  have hC := hide' (str_any bb 0 g cap s w H)
  clear H
  go_enter Try.func9, Try.ntmps9
  go_wp2_with (go_at_call 14; refine hC.out.mono ?_; rintro e w1 ⟨rfl, q, rfl⟩)
  go_ret
  exact ⟨rfl, _, rfl⟩

set_option maxHeartbeats 400000 in
theorem znewOut_buf (bb : Nat) (w : World) :
    Calls Try.prog 7 #[.pointer (some ⟨bb, 0, none⟩)] w fun e w' => e = .returned (.pointer (some ⟨w.heap.size, 0, none⟩)) ∧ w' = w.alloc (.cells #[.iface 23 (.pointer (some ⟨bb, 0, none⟩)), .nilIface, .slice none 0 0, .int .i64 0, .int .i8 0] 43) := by
  go_enter Try.func7, Try.ntmps7
  go_wp2_with (go_at_call 13; refine (newOut_buf bb _).mono ?_; rintro e w1 ⟨rfl, rfl⟩)
  go_ret
  exact ⟨rfl, rfl⟩

set_option maxHeartbeats 400000 in
theorem znewOut_nil (w : World) :
    Calls Try.prog 11 #[] w fun e w' => e = .returned (.pointer (some ⟨w.heap.size, 0, none⟩)) ∧ w' = w.alloc (.cells #[.nilIface, .nilIface, .slice none 0 0, .int .i64 0, .int .i8 0] 43) := by
  go_enter Try.func11, Try.ntmps11
  go_wp2_with (go_at_call 13; refine (newOut_nil _).mono ?_; rintro e w1 ⟨rfl, rfl⟩)
  go_ret
  exact ⟨rfl, rfl⟩

/-- A commandOutput at block ob whose stdout is v. -/
structure OutAt (w : World) (ob : Nat) (v : Value) : Prop where
  str : w.heap[ob]? = some (.cells #[v, .nilIface, .slice none 0 0, .int .i64 0, .int .i8 0] 43 (0, 0))
theorem OutAt.lt {w : World} {ob : Nat} {v : Value} (h : OutAt w ob v) : ob < w.heap.size := (Array.getElem?_eq_some_iff.1 h.str).1
theorem OutAt.later {w w' : World} {ob : Nat} {v : Value} (h : OutAt w ob v) (hb : Below w.heap.size w w') : OutAt w' ob v := ⟨(hb.block ob h.lt).trans h.str⟩
theorem outAt_new (w : World) (v : Value) : OutAt (w.alloc (.cells #[v, .nilIface, .slice none 0 0, .int .i64 0, .int .i8 0] 43)) w.heap.size v := by
  refine ⟨?_⟩
  show (w.heap.push _)[w.heap.size]? = _
  simp
theorem OutAt.c0 {w : World} {ob : Nat} {v : Value} (h : OutAt w ob v) : w.cell? ⟨ob, 0, none⟩ = some v := by rw [cell_of_row _ _ _ _ _ _ h.str]; rfl
theorem OutAt.c1 {w : World} {ob : Nat} {v : Value} (h : OutAt w ob v) : w.cell? ⟨ob, 1, none⟩ = some .nilIface := by rw [cell_of_row _ _ _ _ _ _ h.str]; rfl
theorem OutAt.c2 {w : World} {ob : Nat} {v : Value} (h : OutAt w ob v) : w.cell? ⟨ob, 2, none⟩ = some (.slice none 0 0) := by rw [cell_of_row _ _ _ _ _ _ h.str]; rfl
theorem OutAt.c3 {w : World} {ob : Nat} {v : Value} (h : OutAt w ob v) : w.cell? ⟨ob, 3, none⟩ = some (.int .i64 0) := by rw [cell_of_row _ _ _ _ _ _ h.str]; rfl

set_option maxHeartbeats 1000000 in
theorem fields_buf (ob bb : Nat) (w : World) (H : OutAt w ob (.iface 23 (.pointer (some ⟨bb, 0, none⟩)))) :
    Calls Try.prog 8 #[.pointer (some ⟨ob, 0, none⟩)] w fun e w' => e = .returned (.tuple #[.pointer (some ⟨bb, 0, none⟩), .bool false, .bool true, .string ⟨#[]⟩]) ∧ ∃ q, w' = w.drewN q := by
  have h0 := H.c0
  have h1 := H.c1
  have hS := hide' (fun q => str_nil ob 2 (w.drewN q) H.c2 H.c3)
  have ht := ta_buf
  clear H
  go_enter Try.func8, Try.ntmps8
  go_wp2
  go_quiet ((go_at_call 14; exact Calls.quiet_of (hS.out _)))
  go_wp2
  exact bodyPost_ret (v := .tuple #[.pointer (some ⟨bb, 0, none⟩), .bool false, .bool true, .string ⟨#[]⟩]) (by simp [results, Try.results8]) rfl ⟨rfl, _, rfl⟩

set_option maxHeartbeats 1000000 in
theorem fields_nil (ob : Nat) (w : World) (H : OutAt w ob .nilIface) :
    Calls Try.prog 8 #[.pointer (some ⟨ob, 0, none⟩)] w fun e w' => e = .returned (.tuple #[.pointer none, .bool true, .bool true, .string ⟨#[]⟩]) ∧ ∃ q, w' = w.drewN q := by
  have h0 := H.c0
  have h1 := H.c1
  have hS := hide' (fun q => str_nil ob 2 (w.drewN q) H.c2 H.c3)
  have ht := ta_buf_nil
  clear H
  go_enter Try.func8, Try.ntmps8
  go_wp2
  go_quiet ((go_at_call 14; exact Calls.quiet_of (hS.out _)))
  go_wp2
  exact bodyPost_ret (v := .tuple #[.pointer none, .bool true, .bool true, .string ⟨#[]⟩]) (by simp [results, Try.results8]) rfl ⟨rfl, _, rfl⟩

end Go.Proofs.Qxb6605886a
