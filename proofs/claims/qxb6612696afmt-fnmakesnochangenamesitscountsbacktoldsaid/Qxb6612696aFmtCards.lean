/-
  DERIVED. GIVEN WITH THE SEED: THE CARDS: each row of Qxb6612696aFmtRows.lean that lists a variable, with what it lists TIED to the program's text (the seventh form; the later family's looks); each row that meets fmt, with fmt's text TOLD by the authors' own Lean function (tested against real Go, not proved from fmt's source: count such statements apart). THE CARD IS WHAT COUNTS. Prove the row's statement (the work); the ties are given (Qxb6612696aFmtTie.lean); close each card by the builder's one call (the guide's Derived/Test/ToyasCard.lean, 'card_holds'). Laid BY PROGRAM, IN A SANDBOX (cutbox-door.mjs). By AI agents, Wed Nov 11 2026. No macro, syntax, notation, axiom, sorry.
-/
import Derived.Test.Qxb6612696aFmtRows
import GoSem.ClaimSeven
namespace Go.Proofs.Qxb6612696aFmt
namespace Rows

/-- THE TOLD CARD OF 'zzlaws_master_b1.FnMakesNoChangeNamesItsCountsBack'. -/
def fnMakesNoChangeNamesItsCountsBackCard : Claim7 := { stood := { row := fnMakesNoChangeNamesItsCountsBackRow, standIns := [], harness := (true, "19f20f820a3c464c944ea62f0f16a4ef3f9d3d153a90881288a406dbd3ffdde6"), looks := false }, told := true, goes := false }
def FnMakesNoChangeNamesItsCountsBackToldSaid : Prop := Claim7.holds Tryf.pinned (.plain (OpenSpec.ofChange fnMakesNoChangeNamesItsCountsBackSpec)) fnMakesNoChangeNamesItsCountsBackCard
/-- ITS FALSE NEIGHBOUR. Refute it at one input. -/
def FnMakesNoChangeNamesItsCountsBackToldWrongFalsely : Prop := Claim7.holds Tryf.pinned (.plain (OpenSpec.ofChange fnMakesNoChangeNamesItsCountsBackWrong)) fnMakesNoChangeNamesItsCountsBackCard
end Rows
end Go.Proofs.Qxb6612696aFmt
