/-
  No cell of these rows narrows 'for every input' (looked for: loops, veiled, ifaces, maps, wideKeys, modest, calm, conditions, laid).
  DERIVED. THE GIVEN ROWS OF THIS SEAT. 2 by the template 'for every input the law returns true; each argument reads behind the call as it read before'; 0 by the template 'total and deterministic' (their statements: Qxb6608897aTotals.lean).
  GIVEN WITH THE SEED: the statements are not yours to turn. If you find one false, say at which input.
  Laid BY PROGRAM, IN A SANDBOX (cutbox-rows.mjs): the forced cells as the released guide's own fill.sh prints them over the translation a21f5234db81aa69… (all of the seat's roots in one cut). By AI agents, Wed Nov 11 2026. No macro, syntax, notation, axiom, sorry.
-/
import Derived.Test.Qxb6608897aChecked
import GoSem.Claim
import GoSem.ClaimJoined
import GoSem.ClaimMapViews
import Derived.JoinedTies
import Derived.KernelRfl
namespace Go.Proofs.Qxb6608897a
/- THE CELL 'sum', in the pinned program and in every row, IS THE sha256 OF THE DUMP (.gsa) THAT Qxb6608897aProg.lean LOADS. Nothing in Lean hashes anything: it is a label: what it is worth is what the hold of that sum in a sandbox is worth. -/
noncomputable def Try.pinned : Pinned := { name := "qxb6608897a", sum := "a21f5234db81aa6928bf4347a99369233d6744adf094091f7343984c098ab546", checked := Try.checked }
namespace Rows
def none {H : Type} : Left H := { results := [], args := [] }

/-- 'zzlaws_root_b1.FnHexValueInvertsDigitsInEitherCase': WHATEVER THE INPUT: true; the input reads as it did. -/
def fnHexValueInvertsDigitsInEitherCaseSpec : ChangeSpec := { name := "fnHexValueInvertsDigitsInEitherCase", fn := fun _ => fun
  | [d] => { results := [.lit (.bool true)], args := [d] }
  | _ => none }
def fnHexValueInvertsDigitsInEitherCaseRow : OpenClaim := { program := "qxb6608897a", sum := "a21f5234db81aa6928bf4347a99369233d6744adf094091f7343984c098ab546", func := "example.com/losig/losig/zzlaws_root_b1.FnHexValueInvertsDigitsInEitherCase", spec := "fnHexValueInvertsDigitsInEitherCase", apart := false }
def FnHexValueInvertsDigitsInEitherCaseSaid : Prop := fnHexValueInvertsDigitsInEitherCaseRow.holds Try.pinned (OpenSpec.ofChange fnHexValueInvertsDigitsInEitherCaseSpec)

/-- ITS FALSE NEIGHBOUR: 'it returns false'. Refute it at one input. -/
def fnHexValueInvertsDigitsInEitherCaseWrong : ChangeSpec := { name := "fnHexValueInvertsDigitsInEitherCase", fn := fun _ => fun
  | [d] => { results := [.lit (.bool false)], args := [d] }
  | _ => none }
def FnHexValueInvertsDigitsInEitherCaseWrongFalsely : Prop := fnHexValueInvertsDigitsInEitherCaseRow.holds Try.pinned (OpenSpec.ofChange fnHexValueInvertsDigitsInEitherCaseWrong)

/-- 'zzlaws_root_b1.FnReadOSSV4AuthorizationMatchesGrammar': WHATEVER THE INPUT: true; the input reads as it did. -/
def fnReadOSSV4AuthorizationMatchesGrammarSpec : ChangeSpec := { name := "fnReadOSSV4AuthorizationMatchesGrammar", fn := fun _ => fun
  | [d] => { results := [.lit (.bool true)], args := [d] }
  | _ => none }
def fnReadOSSV4AuthorizationMatchesGrammarRow : OpenClaim := { program := "qxb6608897a", sum := "a21f5234db81aa6928bf4347a99369233d6744adf094091f7343984c098ab546", func := "example.com/losig/losig/zzlaws_root_b1.FnReadOSSV4AuthorizationMatchesGrammar", spec := "fnReadOSSV4AuthorizationMatchesGrammar", inPlace := ["internal/bytealg.IndexByteString", "internal/bytealg.IndexString"], named := ["internal/bytealg.MaxLen"], apart := false }
def FnReadOSSV4AuthorizationMatchesGrammarSaid : Prop := fnReadOSSV4AuthorizationMatchesGrammarRow.holds Try.pinned (OpenSpec.ofChange fnReadOSSV4AuthorizationMatchesGrammarSpec)

/-- ITS FALSE NEIGHBOUR: 'it returns false'. Refute it at one input. -/
def fnReadOSSV4AuthorizationMatchesGrammarWrong : ChangeSpec := { name := "fnReadOSSV4AuthorizationMatchesGrammar", fn := fun _ => fun
  | [d] => { results := [.lit (.bool false)], args := [d] }
  | _ => none }
def FnReadOSSV4AuthorizationMatchesGrammarWrongFalsely : Prop := fnReadOSSV4AuthorizationMatchesGrammarRow.holds Try.pinned (OpenSpec.ofChange fnReadOSSV4AuthorizationMatchesGrammarWrong)

end Rows
end Go.Proofs.Qxb6608897a
