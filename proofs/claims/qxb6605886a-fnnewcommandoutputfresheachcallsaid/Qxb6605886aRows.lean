/-
  No cell of these rows narrows 'for every input' (looked for: loops, veiled, ifaces, maps, wideKeys, modest, calm, conditions, laid).
  DERIVED. THE GIVEN ROWS OF THIS SEAT. 2 by the template 'for every input the law returns true; each argument reads behind the call as it read before'; 0 by the template 'total and deterministic' (their statements: Qxb6605886aTotals.lean).
  GIVEN WITH THE SEED: the statements are not yours to turn. If you find one false, say at which input.
  Laid BY PROGRAM, IN A SANDBOX (cutbox-rows.mjs): the forced cells as the released guide's own fill.sh prints them over the translation d7aa9630ff65e435… (all of the seat's roots in one cut). By AI agents, Wed Nov 11 2026. No macro, syntax, notation, axiom, sorry.
-/
import Derived.Test.Qxb6605886aChecked
import GoSem.Claim
import GoSem.ClaimJoined
import GoSem.ClaimMapViews
import Derived.JoinedTies
import Derived.KernelRfl
namespace Go.Proofs.Qxb6605886a
/- THE CELL 'sum', in the pinned program and in every row, IS THE sha256 OF THE DUMP (.gsa) THAT Qxb6605886aProg.lean LOADS. Nothing in Lean hashes anything: it is a label: what it is worth is what the hold of that sum in a sandbox is worth. -/
noncomputable def Try.pinned : Pinned := { name := "qxb6605886a", sum := "d7aa9630ff65e43582dc69a32c3deb1bb10d9de5a7a8440975ff32d1cf1b2206", checked := Try.checked }
namespace Rows
def none {H : Type} : Left H := { results := [], args := [] }

/-- 'zzlaws_cmd_b1.FnNewCommandOutputOnPlainWriter': WHATEVER THE INPUT: true; the input reads as it did. -/
def fnNewCommandOutputOnPlainWriterSpec : ChangeSpec := { name := "fnNewCommandOutputOnPlainWriter", fn := fun _ => fun
  | [d] => { results := [.lit (.bool true)], args := [d] }
  | _ => none }
def fnNewCommandOutputOnPlainWriterRow : OpenClaim := { program := "qxb6605886a", sum := "d7aa9630ff65e43582dc69a32c3deb1bb10d9de5a7a8440975ff32d1cf1b2206", func := "example.com/xunjia/xunjia/zzlaws_cmd_b1.FnNewCommandOutputOnPlainWriter", spec := "fnNewCommandOutputOnPlainWriter", unfollowed := true, recurses := true, apart := false }
def FnNewCommandOutputOnPlainWriterSaid : Prop := fnNewCommandOutputOnPlainWriterRow.holds Try.pinned (OpenSpec.ofChange fnNewCommandOutputOnPlainWriterSpec)

/-- ITS FALSE NEIGHBOUR: 'it returns false'. Refute it at one input. -/
def fnNewCommandOutputOnPlainWriterWrong : ChangeSpec := { name := "fnNewCommandOutputOnPlainWriter", fn := fun _ => fun
  | [d] => { results := [.lit (.bool false)], args := [d] }
  | _ => none }
def FnNewCommandOutputOnPlainWriterWrongFalsely : Prop := fnNewCommandOutputOnPlainWriterRow.holds Try.pinned (OpenSpec.ofChange fnNewCommandOutputOnPlainWriterWrong)

/-- 'zzlaws_cmd_b1.FnNewCommandOutputFreshEachCall': WHATEVER THE INPUT: true; the input reads as it did. -/
def fnNewCommandOutputFreshEachCallSpec : ChangeSpec := { name := "fnNewCommandOutputFreshEachCall", fn := fun _ => fun
  | [d] => { results := [.lit (.bool true)], args := [d] }
  | _ => none }
def fnNewCommandOutputFreshEachCallRow : OpenClaim := { program := "qxb6605886a", sum := "d7aa9630ff65e43582dc69a32c3deb1bb10d9de5a7a8440975ff32d1cf1b2206", func := "example.com/xunjia/xunjia/zzlaws_cmd_b1.FnNewCommandOutputFreshEachCall", spec := "fnNewCommandOutputFreshEachCall", unfollowed := true, recurses := true, apart := false }
def FnNewCommandOutputFreshEachCallSaid : Prop := fnNewCommandOutputFreshEachCallRow.holds Try.pinned (OpenSpec.ofChange fnNewCommandOutputFreshEachCallSpec)

/-- ITS FALSE NEIGHBOUR: 'it returns false'. Refute it at one input. -/
def fnNewCommandOutputFreshEachCallWrong : ChangeSpec := { name := "fnNewCommandOutputFreshEachCall", fn := fun _ => fun
  | [d] => { results := [.lit (.bool false)], args := [d] }
  | _ => none }
def FnNewCommandOutputFreshEachCallWrongFalsely : Prop := fnNewCommandOutputFreshEachCallRow.holds Try.pinned (OpenSpec.ofChange fnNewCommandOutputFreshEachCallWrong)

end Rows
end Go.Proofs.Qxb6605886a
