/-
  No cell of these rows narrows 'for every input' (looked for: loops, veiled, ifaces, maps, wideKeys, modest, calm, conditions, laid).
  DERIVED. THE GIVEN ROWS OF THIS SEAT. 2 by the template 'for every input the law returns true; each argument reads behind the call as it read before'; 0 by the template 'total and deterministic' (their statements: Qxb6615015aTotals.lean).
  GIVEN WITH THE SEED: the statements are not yours to turn. If you find one false, say at which input.
  Laid BY PROGRAM, IN A SANDBOX (cutbox-rows.mjs): the forced cells as the released guide's own fill.sh prints them over the translation c14e100b9577e035… (all of the seat's roots in one cut). By AI agents, Wed Nov 11 2026. No macro, syntax, notation, axiom, sorry.
-/
import Derived.Test.Qxb6615015aChecked
import GoSem.Claim
import GoSem.ClaimJoined
import GoSem.ClaimMapViews
import Derived.JoinedTies
import Derived.KernelRfl
namespace Go.Proofs.Qxb6615015a
/- THE CELL 'sum', in the pinned program and in every row, IS THE sha256 OF THE DUMP (.gsa) THAT Qxb6615015aProg.lean LOADS. Nothing in Lean hashes anything: it is a label: what it is worth is what the hold of that sum in a sandbox is worth. -/
noncomputable def Try.pinned : Pinned := { name := "qxb6615015a", sum := "c14e100b9577e035f287a2b7328464eb5748a085cf570735bdb2185e3337111d", checked := Try.checked }
namespace Rows
def none {H : Type} : Left H := { results := [], args := [] }

/-- 'zzlaws_pkg_version_b1.FnAllDigitsAgreesAtAnyCut': WHATEVER THE INPUT: true; the input reads as it did. -/
def fnAllDigitsAgreesAtAnyCutSpec : ChangeSpec := { name := "fnAllDigitsAgreesAtAnyCut", fn := fun _ => fun
  | [d1, d2] => { results := [.lit (.bool true)], args := [d1, d2] }
  | _ => none }
def fnAllDigitsAgreesAtAnyCutRow : OpenClaim := { program := "qxb6615015a", sum := "c14e100b9577e035f287a2b7328464eb5748a085cf570735bdb2185e3337111d", func := "example.com/provender/provender/zzlaws_pkg_version_b1.FnAllDigitsAgreesAtAnyCut", spec := "fnAllDigitsAgreesAtAnyCut", unfollowed := true, recurses := true, apart := false }
def FnAllDigitsAgreesAtAnyCutSaid : Prop := fnAllDigitsAgreesAtAnyCutRow.holds Try.pinned (OpenSpec.ofChange fnAllDigitsAgreesAtAnyCutSpec)

/-- ITS FALSE NEIGHBOUR: 'it returns false'. Refute it at one input. -/
def fnAllDigitsAgreesAtAnyCutWrong : ChangeSpec := { name := "fnAllDigitsAgreesAtAnyCut", fn := fun _ => fun
  | [d1, d2] => { results := [.lit (.bool false)], args := [d1, d2] }
  | _ => none }
def FnAllDigitsAgreesAtAnyCutWrongFalsely : Prop := fnAllDigitsAgreesAtAnyCutRow.holds Try.pinned (OpenSpec.ofChange fnAllDigitsAgreesAtAnyCutWrong)

/-- 'zzlaws_pkg_version_b1.FnAllDigitsInsertAnyPlace': WHATEVER THE INPUT: true; the input reads as it did. -/
def fnAllDigitsInsertAnyPlaceSpec : ChangeSpec := { name := "fnAllDigitsInsertAnyPlace", fn := fun _ => fun
  | [d1, d2, d3] => { results := [.lit (.bool true)], args := [d1, d2, d3] }
  | _ => none }
def fnAllDigitsInsertAnyPlaceRow : OpenClaim := { program := "qxb6615015a", sum := "c14e100b9577e035f287a2b7328464eb5748a085cf570735bdb2185e3337111d", func := "example.com/provender/provender/zzlaws_pkg_version_b1.FnAllDigitsInsertAnyPlace", spec := "fnAllDigitsInsertAnyPlace", unfollowed := true, recurses := true, apart := false }
def FnAllDigitsInsertAnyPlaceSaid : Prop := fnAllDigitsInsertAnyPlaceRow.holds Try.pinned (OpenSpec.ofChange fnAllDigitsInsertAnyPlaceSpec)

/-- ITS FALSE NEIGHBOUR: 'it returns false'. Refute it at one input. -/
def fnAllDigitsInsertAnyPlaceWrong : ChangeSpec := { name := "fnAllDigitsInsertAnyPlace", fn := fun _ => fun
  | [d1, d2, d3] => { results := [.lit (.bool false)], args := [d1, d2, d3] }
  | _ => none }
def FnAllDigitsInsertAnyPlaceWrongFalsely : Prop := fnAllDigitsInsertAnyPlaceRow.holds Try.pinned (OpenSpec.ofChange fnAllDigitsInsertAnyPlaceWrong)

end Rows
end Go.Proofs.Qxb6615015a
