/-
  No cell of these rows narrows 'for every input' (looked for: loops, veiled, ifaces, maps, wideKeys, modest, calm, conditions, laid).
  DERIVED. THE GIVEN ROWS OF THIS SEAT. 1 by the template 'for every input the law returns true; each argument reads behind the call as it read before'; 0 by the template 'total and deterministic' (their statements: Qxb6612696aFmtTotals.lean).
  GIVEN WITH THE SEED: the statements are not yours to turn. If you find one false, say at which input.
  Laid BY PROGRAM, IN A SANDBOX (cutbox-rows.mjs): the forced cells as the released guide's own fill.sh prints them over the translation 769a6de68f1c203d… (all of the seat's roots in one cut). By AI agents, Wed Nov 11 2026. No macro, syntax, notation, axiom, sorry.
-/
import Derived.Test.Qxb6612696aFmtChecked
import GoSem.Claim
import GoSem.ClaimJoined
import GoSem.ClaimMapViews
import Derived.JoinedTies
import Derived.KernelRfl
namespace Go.Proofs.Qxb6612696aFmt
/- THE CELL 'sum', in the pinned program and in every row, IS THE sha256 OF THE DUMP (.gsa) THAT Qxb6612696aFmtProg.lean LOADS. Nothing in Lean hashes anything: it is a label: what it is worth is what the hold of that sum in a sandbox is worth. -/
noncomputable def Tryf.pinned : Pinned := { name := "qxb6612696afmt", sum := "769a6de68f1c203d99abbd901f59dbac17bf2fa699aa435635e89ae316de322b", checked := Tryf.checked }
namespace Rows
def none {H : Type} : Left H := { results := [], args := [] }

/-- 'zzlaws_master_b1.FnMakesNoChangeNamesItsCountsBack': WHATEVER THE INPUT: true; the input reads as it did. -/
def fnMakesNoChangeNamesItsCountsBackSpec : ChangeSpec := { name := "fnMakesNoChangeNamesItsCountsBack", fn := fun _ => fun
  | [d1, d2] => { results := [.lit (.bool true)], args := [d1, d2] }
  | _ => none }
def fnMakesNoChangeNamesItsCountsBackRow : OpenClaim := { program := "qxb6612696afmt", sum := "769a6de68f1c203d99abbd901f59dbac17bf2fa699aa435635e89ae316de322b", func := "example.com/chunkwright/chunkwright/zzlaws_master_b1.FnMakesNoChangeNamesItsCountsBack", spec := "fnMakesNoChangeNamesItsCountsBack", stops := ["fmt.Sprintf"], inPlace := ["fmt.Sprintf"], apart := false }
/-- NO THEOREM (fmt's text is open here; it may be false): for the released tool's asking of the row's closed facts alone. THE STATEMENT IS 'FnMakesNoChangeNamesItsCountsBackToldSaid' (Qxb6612696aFmtCards.lean). -/
def FnMakesNoChangeNamesItsCountsBackFormAsk : Prop := fnMakesNoChangeNamesItsCountsBackRow.holds Tryf.pinned (OpenSpec.ofChange fnMakesNoChangeNamesItsCountsBackSpec)

/-- ITS FALSE NEIGHBOUR: 'it returns false'. Refute it at one input. -/
def fnMakesNoChangeNamesItsCountsBackWrong : ChangeSpec := { name := "fnMakesNoChangeNamesItsCountsBack", fn := fun _ => fun
  | [d1, d2] => { results := [.lit (.bool false)], args := [d1, d2] }
  | _ => none }
def FnMakesNoChangeNamesItsCountsBackWrongFormAsk : Prop := fnMakesNoChangeNamesItsCountsBackRow.holds Tryf.pinned (OpenSpec.ofChange fnMakesNoChangeNamesItsCountsBackWrong)

end Rows
end Go.Proofs.Qxb6612696aFmt
