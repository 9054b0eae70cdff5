/-
  No cell of these rows narrows 'for every input' (looked for: loops, veiled, ifaces, maps, wideKeys, modest, calm, conditions, laid).
  DERIVED. THE GIVEN ROWS OF THIS SEAT. 2 by the template 'for every input the law returns true; each argument reads behind the call as it read before'; 0 by the template 'total and deterministic' (their statements: Qxb6612679aTotals.lean).
  GIVEN WITH THE SEED: the statements are not yours to turn. If you find one false, say at which input.
  Laid BY PROGRAM, IN A SANDBOX (cutbox-rows.mjs): the forced cells as the released guide's own fill.sh prints them over the translation e9d6761e2cad706a… (all of the seat's roots in one cut). By AI agents, Wed Nov 11 2026. No macro, syntax, notation, axiom, sorry.
-/
import Derived.Test.Qxb6612679aChecked
import GoSem.Claim
import GoSem.ClaimJoined
import GoSem.ClaimMapViews
import Derived.JoinedTies
import Derived.KernelRfl
namespace Go.Proofs.Qxb6612679a
/- THE CELL 'sum', in the pinned program and in every row, IS THE sha256 OF THE DUMP (.gsa) THAT Qxb6612679aProg.lean LOADS. Nothing in Lean hashes anything: it is a label: what it is worth is what the hold of that sum in a sandbox is worth. -/
noncomputable def Try.pinned : Pinned := { name := "qxb6612679a", sum := "e9d6761e2cad706a915b9858b920b47aea6002b83a6c5ea8b020341e39a02c80", checked := Try.checked }
namespace Rows
def none {H : Type} : Left H := { results := [], args := [] }

/-- 'zzlaws_internal_check_b1.FnStandsAtSplitsAtAnyCut': WHATEVER THE INPUT: true; the input reads as it did. -/
def fnStandsAtSplitsAtAnyCutSpec : ChangeSpec := { name := "fnStandsAtSplitsAtAnyCut", fn := fun _ => fun
  | [d1, d2, d3, d4] => { results := [.lit (.bool true)], args := [d1, d2, d3, d4] }
  | _ => none }
def fnStandsAtSplitsAtAnyCutRow : OpenClaim := { program := "qxb6612679a", sum := "e9d6761e2cad706a915b9858b920b47aea6002b83a6c5ea8b020341e39a02c80", func := "example.com/cautious-deprecation/cautious-deprecation/zzlaws_internal_check_b1.FnStandsAtSplitsAtAnyCut", spec := "fnStandsAtSplitsAtAnyCut", apart := false }
def FnStandsAtSplitsAtAnyCutSaid : Prop := fnStandsAtSplitsAtAnyCutRow.holds Try.pinned (OpenSpec.ofChange fnStandsAtSplitsAtAnyCutSpec)

/-- ITS FALSE NEIGHBOUR: 'it returns false'. Refute it at one input. -/
def fnStandsAtSplitsAtAnyCutWrong : ChangeSpec := { name := "fnStandsAtSplitsAtAnyCut", fn := fun _ => fun
  | [d1, d2, d3, d4] => { results := [.lit (.bool false)], args := [d1, d2, d3, d4] }
  | _ => none }
def FnStandsAtSplitsAtAnyCutWrongFalsely : Prop := fnStandsAtSplitsAtAnyCutRow.holds Try.pinned (OpenSpec.ofChange fnStandsAtSplitsAtAnyCutWrong)

/-- 'zzlaws_internal_check_b1.FnStandsAtMeetsAsIntersection': WHATEVER THE INPUT: true; the input reads as it did. -/
def fnStandsAtMeetsAsIntersectionSpec : ChangeSpec := { name := "fnStandsAtMeetsAsIntersection", fn := fun _ => fun
  | [d1, d2, d3, d4, d5] => { results := [.lit (.bool true)], args := [d1, d2, d3, d4, d5] }
  | _ => none }
def fnStandsAtMeetsAsIntersectionRow : OpenClaim := { program := "qxb6612679a", sum := "e9d6761e2cad706a915b9858b920b47aea6002b83a6c5ea8b020341e39a02c80", func := "example.com/cautious-deprecation/cautious-deprecation/zzlaws_internal_check_b1.FnStandsAtMeetsAsIntersection", spec := "fnStandsAtMeetsAsIntersection", apart := false }
def FnStandsAtMeetsAsIntersectionSaid : Prop := fnStandsAtMeetsAsIntersectionRow.holds Try.pinned (OpenSpec.ofChange fnStandsAtMeetsAsIntersectionSpec)

/-- ITS FALSE NEIGHBOUR: 'it returns false'. Refute it at one input. -/
def fnStandsAtMeetsAsIntersectionWrong : ChangeSpec := { name := "fnStandsAtMeetsAsIntersection", fn := fun _ => fun
  | [d1, d2, d3, d4, d5] => { results := [.lit (.bool false)], args := [d1, d2, d3, d4, d5] }
  | _ => none }
def FnStandsAtMeetsAsIntersectionWrongFalsely : Prop := fnStandsAtMeetsAsIntersectionRow.holds Try.pinned (OpenSpec.ofChange fnStandsAtMeetsAsIntersectionWrong)

end Rows
end Go.Proofs.Qxb6612679a
