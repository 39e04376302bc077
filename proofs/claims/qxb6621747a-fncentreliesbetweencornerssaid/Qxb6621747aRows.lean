/-
  No cell of these rows narrows 'for every input' (looked for: loops, veiled, ifaces, maps, wideKeys, modest, calm, conditions, laid).
  DERIVED. THE GIVEN ROWS OF THIS SEAT. 2 by the template 'for every input the law returns true; each argument reads behind the call as it read before'; 0 by the template 'total and deterministic' (their statements: Qxb6621747aTotals.lean).
  GIVEN WITH THE SEED: the statements are not yours to turn. If you find one false, say at which input.
  Laid BY PROGRAM, IN A SANDBOX (cutbox-rows.mjs): the forced cells as the released guide's own fill.sh prints them over the translation 7000d5eac3fb982c… (all of the seat's roots in one cut). By AI agents, Wed Nov 11 2026. No macro, syntax, notation, axiom, sorry.
-/
import Derived.Test.Qxb6621747aChecked
import GoSem.Claim
import GoSem.ClaimJoined
import GoSem.ClaimMapViews
import Derived.JoinedTies
import Derived.KernelRfl
namespace Go.Proofs.Qxb6621747a
/- THE CELL 'sum', in the pinned program and in every row, IS THE sha256 OF THE DUMP (.gsa) THAT Qxb6621747aProg.lean LOADS. Nothing in Lean hashes anything: it is a label: what it is worth is what the hold of that sum in a sandbox is worth. -/
noncomputable def Try.pinned : Pinned := { name := "qxb6621747a", sum := "7000d5eac3fb982ca62bf9a28b742f0f6824f195089777944d6d5a790eb482e7", checked := Try.checked }
namespace Rows
def none {H : Type} : Left H := { results := [], args := [] }

/-- 'zzlaws_internal_sim_b1.FnCentreMidpointSplitsAndSwaps': WHATEVER THE INPUT: true; the input reads as it did. -/
def fnCentreMidpointSplitsAndSwapsSpec : ChangeSpec := { name := "fnCentreMidpointSplitsAndSwaps", fn := fun _ => fun
  | [d1, d2, d3] => { results := [.lit (.bool true)], args := [d1, d2, d3] }
  | _ => none }
def fnCentreMidpointSplitsAndSwapsRow : OpenClaim := { program := "qxb6621747a", sum := "7000d5eac3fb982ca62bf9a28b742f0f6824f195089777944d6d5a790eb482e7", func := "example.com/tessera/tessera/zzlaws_internal_sim_b1.FnCentreMidpointSplitsAndSwaps", spec := "fnCentreMidpointSplitsAndSwaps", apart := false }
def FnCentreMidpointSplitsAndSwapsSaid : Prop := fnCentreMidpointSplitsAndSwapsRow.holds Try.pinned (OpenSpec.ofChange fnCentreMidpointSplitsAndSwapsSpec)

/-- ITS FALSE NEIGHBOUR: 'it returns false'. Refute it at one input. -/
def fnCentreMidpointSplitsAndSwapsWrong : ChangeSpec := { name := "fnCentreMidpointSplitsAndSwaps", fn := fun _ => fun
  | [d1, d2, d3] => { results := [.lit (.bool false)], args := [d1, d2, d3] }
  | _ => none }
def FnCentreMidpointSplitsAndSwapsWrongFalsely : Prop := fnCentreMidpointSplitsAndSwapsRow.holds Try.pinned (OpenSpec.ofChange fnCentreMidpointSplitsAndSwapsWrong)

/-- 'zzlaws_internal_sim_b1.FnCentreLiesBetweenCorners': WHATEVER THE INPUT: true; the input reads as it did. -/
def fnCentreLiesBetweenCornersSpec : ChangeSpec := { name := "fnCentreLiesBetweenCorners", fn := fun _ => fun
  | [d1, d2] => { results := [.lit (.bool true)], args := [d1, d2] }
  | _ => none }
def fnCentreLiesBetweenCornersRow : OpenClaim := { program := "qxb6621747a", sum := "7000d5eac3fb982ca62bf9a28b742f0f6824f195089777944d6d5a790eb482e7", func := "example.com/tessera/tessera/zzlaws_internal_sim_b1.FnCentreLiesBetweenCorners", spec := "fnCentreLiesBetweenCorners", apart := false }
def FnCentreLiesBetweenCornersSaid : Prop := fnCentreLiesBetweenCornersRow.holds Try.pinned (OpenSpec.ofChange fnCentreLiesBetweenCornersSpec)

/-- ITS FALSE NEIGHBOUR: 'it returns false'. Refute it at one input. -/
def fnCentreLiesBetweenCornersWrong : ChangeSpec := { name := "fnCentreLiesBetweenCorners", fn := fun _ => fun
  | [d1, d2] => { results := [.lit (.bool false)], args := [d1, d2] }
  | _ => none }
def FnCentreLiesBetweenCornersWrongFalsely : Prop := fnCentreLiesBetweenCornersRow.holds Try.pinned (OpenSpec.ofChange fnCentreLiesBetweenCornersWrong)

end Rows
end Go.Proofs.Qxb6621747a
