/-
  No cell of these rows narrows 'for every input' (looked for: loops, veiled, ifaces, maps, wideKeys, modest, calm, conditions, laid).
  DERIVED. THE GIVEN ROWS OF THIS SEAT. 2 by the template 'for every input the law returns true; each argument reads behind the call as it read before'; 0 by the template 'total and deterministic' (their statements: Qxb6619284aTotals.lean).
  GIVEN WITH THE SEED: the statements are not yours to turn. If you find one false, say at which input.
  Laid BY PROGRAM, IN A SANDBOX (cutbox-rows.mjs): the forced cells as the released guide's own fill.sh prints them over the translation 037b838e807d3f45… (all of the seat's roots in one cut). By AI agents, Wed Nov 11 2026. No macro, syntax, notation, axiom, sorry.
-/
import Derived.Test.Qxb6619284aChecked
import GoSem.Claim
import GoSem.ClaimJoined
import GoSem.ClaimMapViews
import Derived.JoinedTies
import Derived.KernelRfl
namespace Go.Proofs.Qxb6619284a
/- THE CELL 'sum', in the pinned program and in every row, IS THE sha256 OF THE DUMP (.gsa) THAT Qxb6619284aProg.lean LOADS. Nothing in Lean hashes anything: it is a label: what it is worth is what the hold of that sum in a sandbox is worth. -/
noncomputable def Try.pinned : Pinned := { name := "qxb6619284a", sum := "037b838e807d3f452bf42bc94cfbf24312d72e479f1530455c80044a596b38bd", checked := Try.checked }
namespace Rows
def none {H : Type} : Left H := { results := [], args := [] }

/-- 'zzlaws_pkg_version_b1.FnCutDigitsJoinAtAnyCut': WHATEVER THE INPUT: true; the input reads as it did. -/
def fnCutDigitsJoinAtAnyCutSpec : ChangeSpec := { name := "fnCutDigitsJoinAtAnyCut", fn := fun _ => fun
  | [d1, d2] => { results := [.lit (.bool true)], args := [d1, d2] }
  | _ => none }
def fnCutDigitsJoinAtAnyCutRow : OpenClaim := { program := "qxb6619284a", sum := "037b838e807d3f452bf42bc94cfbf24312d72e479f1530455c80044a596b38bd", func := "example.com/gentle-deprecation/gentle-deprecation/zzlaws_pkg_version_b1.FnCutDigitsJoinAtAnyCut", spec := "fnCutDigitsJoinAtAnyCut", apart := false }
def FnCutDigitsJoinAtAnyCutSaid : Prop := fnCutDigitsJoinAtAnyCutRow.holds Try.pinned (OpenSpec.ofChange fnCutDigitsJoinAtAnyCutSpec)

/-- ITS FALSE NEIGHBOUR: 'it returns false'. Refute it at one input. -/
def fnCutDigitsJoinAtAnyCutWrong : ChangeSpec := { name := "fnCutDigitsJoinAtAnyCut", fn := fun _ => fun
  | [d1, d2] => { results := [.lit (.bool false)], args := [d1, d2] }
  | _ => none }
def FnCutDigitsJoinAtAnyCutWrongFalsely : Prop := fnCutDigitsJoinAtAnyCutRow.holds Try.pinned (OpenSpec.ofChange fnCutDigitsJoinAtAnyCutWrong)

/-- 'zzlaws_pkg_version_b1.FnParseIsTheOneSplitAndGrowsByDigits': WHATEVER THE INPUT: true; the input reads as it did. -/
def fnParseIsTheOneSplitAndGrowsByDigitsSpec : ChangeSpec := { name := "fnParseIsTheOneSplitAndGrowsByDigits", fn := fun _ => fun
  | [d1, d2] => { results := [.lit (.bool true)], args := [d1, d2] }
  | _ => none }
def fnParseIsTheOneSplitAndGrowsByDigitsRow : OpenClaim := { program := "qxb6619284a", sum := "037b838e807d3f452bf42bc94cfbf24312d72e479f1530455c80044a596b38bd", func := "example.com/gentle-deprecation/gentle-deprecation/zzlaws_pkg_version_b1.FnParseIsTheOneSplitAndGrowsByDigits", spec := "fnParseIsTheOneSplitAndGrowsByDigits", apart := false }
def FnParseIsTheOneSplitAndGrowsByDigitsSaid : Prop := fnParseIsTheOneSplitAndGrowsByDigitsRow.holds Try.pinned (OpenSpec.ofChange fnParseIsTheOneSplitAndGrowsByDigitsSpec)

/-- ITS FALSE NEIGHBOUR: 'it returns false'. Refute it at one input. -/
def fnParseIsTheOneSplitAndGrowsByDigitsWrong : ChangeSpec := { name := "fnParseIsTheOneSplitAndGrowsByDigits", fn := fun _ => fun
  | [d1, d2] => { results := [.lit (.bool false)], args := [d1, d2] }
  | _ => none }
def FnParseIsTheOneSplitAndGrowsByDigitsWrongFalsely : Prop := fnParseIsTheOneSplitAndGrowsByDigitsRow.holds Try.pinned (OpenSpec.ofChange fnParseIsTheOneSplitAndGrowsByDigitsWrong)

end Rows
end Go.Proofs.Qxb6619284a
