/-
  No cell of these rows narrows 'for every input' (looked for: loops, veiled, ifaces, maps, wideKeys, modest, calm, conditions, laid).
  DERIVED. THE GIVEN ROWS OF THIS SEAT. 3 by the template 'for every input the law returns true; each argument reads behind the call as it read before'; 0 by the template 'total and deterministic' (their statements: Qxb6619274aTotals.lean).
  GIVEN WITH THE SEED: the statements are not yours to turn. If you find one false, say at which input.
  Laid BY PROGRAM, IN A SANDBOX (cutbox-rows.mjs): the forced cells as the released guide's own fill.sh prints them over the translation 1049e2eca3d9d2c5… (all of the seat's roots in one cut). By AI agents, Wed Nov 11 2026. No macro, syntax, notation, axiom, sorry.
-/
import Derived.Test.Qxb6619274aChecked
import GoSem.Claim
import GoSem.ClaimJoined
import GoSem.ClaimMapViews
import Derived.JoinedTies
import Derived.KernelRfl
namespace Go.Proofs.Qxb6619274a
/- THE CELL 'sum', in the pinned program and in every row, IS THE sha256 OF THE DUMP (.gsa) THAT Qxb6619274aProg.lean LOADS. Nothing in Lean hashes anything: it is a label: what it is worth is what the hold of that sum in a sandbox is worth. -/
noncomputable def Try.pinned : Pinned := { name := "qxb6619274a", sum := "1049e2eca3d9d2c57e011f7429090ca1e3b5dd400b4c8f7dd0d892fa6092c63d", checked := Try.checked }
namespace Rows
def none {H : Type} : Left H := { results := [], args := [] }

/-- 'zzlaws_internal_semver_b1.FnIsIdentifierAtAnyCut': WHATEVER THE INPUT: true; the input reads as it did. -/
def fnIsIdentifierAtAnyCutSpec : ChangeSpec := { name := "fnIsIdentifierAtAnyCut", fn := fun _ => fun
  | [d1, d2] => { results := [.lit (.bool true)], args := [d1, d2] }
  | _ => none }
def fnIsIdentifierAtAnyCutRow : OpenClaim := { program := "qxb6619274a", sum := "1049e2eca3d9d2c57e011f7429090ca1e3b5dd400b4c8f7dd0d892fa6092c63d", func := "example.com/resolvent/resolvent/zzlaws_internal_semver_b1.FnIsIdentifierAtAnyCut", spec := "fnIsIdentifierAtAnyCut", apart := false }
def FnIsIdentifierAtAnyCutSaid : Prop := fnIsIdentifierAtAnyCutRow.holds Try.pinned (OpenSpec.ofChange fnIsIdentifierAtAnyCutSpec)

/-- ITS FALSE NEIGHBOUR: 'it returns false'. Refute it at one input. -/
def fnIsIdentifierAtAnyCutWrong : ChangeSpec := { name := "fnIsIdentifierAtAnyCut", fn := fun _ => fun
  | [d1, d2] => { results := [.lit (.bool false)], args := [d1, d2] }
  | _ => none }
def FnIsIdentifierAtAnyCutWrongFalsely : Prop := fnIsIdentifierAtAnyCutRow.holds Try.pinned (OpenSpec.ofChange fnIsIdentifierAtAnyCutWrong)

/-- 'zzlaws_internal_semver_b1.FnIsDigitsAtAnyCut': WHATEVER THE INPUT: true; the input reads as it did. -/
def fnIsDigitsAtAnyCutSpec : ChangeSpec := { name := "fnIsDigitsAtAnyCut", fn := fun _ => fun
  | [d1, d2] => { results := [.lit (.bool true)], args := [d1, d2] }
  | _ => none }
def fnIsDigitsAtAnyCutRow : OpenClaim := { program := "qxb6619274a", sum := "1049e2eca3d9d2c57e011f7429090ca1e3b5dd400b4c8f7dd0d892fa6092c63d", func := "example.com/resolvent/resolvent/zzlaws_internal_semver_b1.FnIsDigitsAtAnyCut", spec := "fnIsDigitsAtAnyCut", apart := false }
def FnIsDigitsAtAnyCutSaid : Prop := fnIsDigitsAtAnyCutRow.holds Try.pinned (OpenSpec.ofChange fnIsDigitsAtAnyCutSpec)

/-- ITS FALSE NEIGHBOUR: 'it returns false'. Refute it at one input. -/
def fnIsDigitsAtAnyCutWrong : ChangeSpec := { name := "fnIsDigitsAtAnyCut", fn := fun _ => fun
  | [d1, d2] => { results := [.lit (.bool false)], args := [d1, d2] }
  | _ => none }
def FnIsDigitsAtAnyCutWrongFalsely : Prop := fnIsDigitsAtAnyCutRow.holds Try.pinned (OpenSpec.ofChange fnIsDigitsAtAnyCutWrong)

/-- 'zzlaws_internal_semver_b1.FnDigitsAreIdentifiersWithoutLettersOrHyphens': WHATEVER THE INPUT: true; the input reads as it did. -/
def fnDigitsAreIdentifiersWithoutLettersOrHyphensSpec : ChangeSpec := { name := "fnDigitsAreIdentifiersWithoutLettersOrHyphens", fn := fun _ => fun
  | [d] => { results := [.lit (.bool true)], args := [d] }
  | _ => none }
def fnDigitsAreIdentifiersWithoutLettersOrHyphensRow : OpenClaim := { program := "qxb6619274a", sum := "1049e2eca3d9d2c57e011f7429090ca1e3b5dd400b4c8f7dd0d892fa6092c63d", func := "example.com/resolvent/resolvent/zzlaws_internal_semver_b1.FnDigitsAreIdentifiersWithoutLettersOrHyphens", spec := "fnDigitsAreIdentifiersWithoutLettersOrHyphens", apart := false }
def FnDigitsAreIdentifiersWithoutLettersOrHyphensSaid : Prop := fnDigitsAreIdentifiersWithoutLettersOrHyphensRow.holds Try.pinned (OpenSpec.ofChange fnDigitsAreIdentifiersWithoutLettersOrHyphensSpec)

/-- ITS FALSE NEIGHBOUR: 'it returns false'. Refute it at one input. -/
def fnDigitsAreIdentifiersWithoutLettersOrHyphensWrong : ChangeSpec := { name := "fnDigitsAreIdentifiersWithoutLettersOrHyphens", fn := fun _ => fun
  | [d] => { results := [.lit (.bool false)], args := [d] }
  | _ => none }
def FnDigitsAreIdentifiersWithoutLettersOrHyphensWrongFalsely : Prop := fnDigitsAreIdentifiersWithoutLettersOrHyphensRow.holds Try.pinned (OpenSpec.ofChange fnDigitsAreIdentifiersWithoutLettersOrHyphensWrong)

end Rows
end Go.Proofs.Qxb6619274a
