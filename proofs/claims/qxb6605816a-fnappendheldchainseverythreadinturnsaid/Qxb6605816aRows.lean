/-
  No cell of these rows narrows 'for every input' (looked for: loops, veiled, ifaces, maps, wideKeys, modest, calm, conditions, laid).
  DERIVED. THE GIVEN ROWS OF THIS SEAT. 3 by the template 'for every input the law returns true; each argument reads behind the call as it read before'; 0 by the template 'total and deterministic' (their statements: Qxb6605816aTotals.lean).
  GIVEN WITH THE SEED: the statements are not yours to turn. If you find one false, say at which input.
  Laid BY PROGRAM, IN A SANDBOX (cutbox-rows.mjs): the forced cells as the released guide's own fill.sh prints them over the translation 1bd64031fbc7f8cf… (all of the seat's roots in one cut). By AI agents, Wed Nov 11 2026. No macro, syntax, notation, axiom, sorry.
-/
import Derived.Test.Qxb6605816aChecked
import GoSem.Claim
import GoSem.ClaimJoined
import GoSem.ClaimMapViews
import Derived.JoinedTies
import Derived.KernelRfl
namespace Go.Proofs.Qxb6605816a
/- THE CELL 'sum', in the pinned program and in every row, IS THE sha256 OF THE DUMP (.gsa) THAT Qxb6605816aProg.lean LOADS. Nothing in Lean hashes anything: it is a label: what it is worth is what the hold of that sum in a sandbox is worth. -/
noncomputable def Try.pinned : Pinned := { name := "qxb6605816a", sum := "1bd64031fbc7f8cf26c3f34602a00ee404de9abd10292f438087c75aac47db27", checked := Try.checked }
namespace Rows
def none {H : Type} : Left H := { results := [], args := [] }

/-- 'zzlaws_pkg_lockset_b1.FnAppendHeldIsBufferThenThreadsLockset': WHATEVER THE INPUT: true; the input reads as it did. -/
def fnAppendHeldIsBufferThenThreadsLocksetSpec : ChangeSpec := { name := "fnAppendHeldIsBufferThenThreadsLockset", fn := fun _ => fun
  | [d1, d2, d3] => { results := [.lit (.bool true)], args := [d1, d2, d3] }
  | _ => none }
def fnAppendHeldIsBufferThenThreadsLocksetRow : OpenClaim := { program := "qxb6605816a", sum := "1bd64031fbc7f8cf26c3f34602a00ee404de9abd10292f438087c75aac47db27", func := "example.com/foretrace/foretrace/zzlaws_pkg_lockset_b1.FnAppendHeldIsBufferThenThreadsLockset", spec := "fnAppendHeldIsBufferThenThreadsLockset", unfollowed := true, recurses := true, apart := false }
def FnAppendHeldIsBufferThenThreadsLocksetSaid : Prop := fnAppendHeldIsBufferThenThreadsLocksetRow.holds Try.pinned (OpenSpec.ofChange fnAppendHeldIsBufferThenThreadsLocksetSpec)

/-- ITS FALSE NEIGHBOUR: 'it returns false'. Refute it at one input. -/
def fnAppendHeldIsBufferThenThreadsLocksetWrong : ChangeSpec := { name := "fnAppendHeldIsBufferThenThreadsLockset", fn := fun _ => fun
  | [d1, d2, d3] => { results := [.lit (.bool false)], args := [d1, d2, d3] }
  | _ => none }
def FnAppendHeldIsBufferThenThreadsLocksetWrongFalsely : Prop := fnAppendHeldIsBufferThenThreadsLocksetRow.holds Try.pinned (OpenSpec.ofChange fnAppendHeldIsBufferThenThreadsLocksetWrong)

/-- 'zzlaws_pkg_lockset_b1.FnAppendHeldChainsEveryThreadInTurn': WHATEVER THE INPUT: true; the input reads as it did. -/
def fnAppendHeldChainsEveryThreadInTurnSpec : ChangeSpec := { name := "fnAppendHeldChainsEveryThreadInTurn", fn := fun _ => fun
  | [d1, d2] => { results := [.lit (.bool true)], args := [d1, d2] }
  | _ => none }
def fnAppendHeldChainsEveryThreadInTurnRow : OpenClaim := { program := "qxb6605816a", sum := "1bd64031fbc7f8cf26c3f34602a00ee404de9abd10292f438087c75aac47db27", func := "example.com/foretrace/foretrace/zzlaws_pkg_lockset_b1.FnAppendHeldChainsEveryThreadInTurn", spec := "fnAppendHeldChainsEveryThreadInTurn", unfollowed := true, recurses := true, apart := false }
def FnAppendHeldChainsEveryThreadInTurnSaid : Prop := fnAppendHeldChainsEveryThreadInTurnRow.holds Try.pinned (OpenSpec.ofChange fnAppendHeldChainsEveryThreadInTurnSpec)

/-- ITS FALSE NEIGHBOUR: 'it returns false'. Refute it at one input. -/
def fnAppendHeldChainsEveryThreadInTurnWrong : ChangeSpec := { name := "fnAppendHeldChainsEveryThreadInTurn", fn := fun _ => fun
  | [d1, d2] => { results := [.lit (.bool false)], args := [d1, d2] }
  | _ => none }
def FnAppendHeldChainsEveryThreadInTurnWrongFalsely : Prop := fnAppendHeldChainsEveryThreadInTurnRow.holds Try.pinned (OpenSpec.ofChange fnAppendHeldChainsEveryThreadInTurnWrong)

/-- 'zzlaws_pkg_lockset_b1.FnHotPathTrunkIsRootThenEveryChunk': WHATEVER THE INPUT: true; the input reads as it did. -/
def fnHotPathTrunkIsRootThenEveryChunkSpec : ChangeSpec := { name := "fnHotPathTrunkIsRootThenEveryChunk", fn := fun _ => fun
  | [d] => { results := [.lit (.bool true)], args := [d] }
  | _ => none }
def fnHotPathTrunkIsRootThenEveryChunkRow : OpenClaim := { program := "qxb6605816a", sum := "1bd64031fbc7f8cf26c3f34602a00ee404de9abd10292f438087c75aac47db27", func := "example.com/foretrace/foretrace/zzlaws_pkg_lockset_b1.FnHotPathTrunkIsRootThenEveryChunk", spec := "fnHotPathTrunkIsRootThenEveryChunk", apart := false }
def FnHotPathTrunkIsRootThenEveryChunkSaid : Prop := fnHotPathTrunkIsRootThenEveryChunkRow.holds Try.pinned (OpenSpec.ofChange fnHotPathTrunkIsRootThenEveryChunkSpec)

/-- ITS FALSE NEIGHBOUR: 'it returns false'. Refute it at one input. -/
def fnHotPathTrunkIsRootThenEveryChunkWrong : ChangeSpec := { name := "fnHotPathTrunkIsRootThenEveryChunk", fn := fun _ => fun
  | [d] => { results := [.lit (.bool false)], args := [d] }
  | _ => none }
def FnHotPathTrunkIsRootThenEveryChunkWrongFalsely : Prop := fnHotPathTrunkIsRootThenEveryChunkRow.holds Try.pinned (OpenSpec.ofChange fnHotPathTrunkIsRootThenEveryChunkWrong)

end Rows
end Go.Proofs.Qxb6605816a
