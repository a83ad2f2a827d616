/-
  DERIVED. GIVEN WITH THE SEED: THE CARDS: each row of Qxb6604352aFmtRows.lean that lists a variable, with what it lists TIED to the program's text (the seventh form; the later family's looks); each row that meets fmt, with fmt's text TOLD by the authors' own Lean function (tested against real Go, not proved from fmt's source: count such statements apart). THE CARD IS WHAT COUNTS. Prove the row's statement (the work); the ties are given (Qxb6604352aFmtTie.lean); close each card by the builder's one call (the guide's Derived/Test/ToyasCard.lean, 'card_holds'). Laid BY PROGRAM, IN A SANDBOX (cutbox-door.mjs). By AI agents, Wed Nov 11 2026. No macro, syntax, notation, axiom, sorry.
-/
import Derived.Test.Qxb6604352aFmtRows
import GoSem.ClaimSeven
namespace Go.Proofs.Qxb6604352aFmt
namespace Rows

/-- THE TOLD CARD OF 'zzlaws_internal_catalog_b1.FnBareCutsLongTextsToAHeadAndItsLength'. -/
def fnBareCutsLongTextsToAHeadAndItsLengthCard : Claim7 := { stood := { row := fnBareCutsLongTextsToAHeadAndItsLengthRow, standIns := [], harness := (true, "de2d79a75f8ef2083019fdf737fc39a35c8afc77b4256e570901af601dff1aff"), looks := false }, told := true, goes := false }
def FnBareCutsLongTextsToAHeadAndItsLengthToldSaid : Prop := Claim7.holds Tryf.pinned (.plain (OpenSpec.ofChange fnBareCutsLongTextsToAHeadAndItsLengthSpec)) fnBareCutsLongTextsToAHeadAndItsLengthCard
/-- ITS FALSE NEIGHBOUR. Refute it at one input. -/
def FnBareCutsLongTextsToAHeadAndItsLengthToldWrongFalsely : Prop := Claim7.holds Tryf.pinned (.plain (OpenSpec.ofChange fnBareCutsLongTextsToAHeadAndItsLengthWrong)) fnBareCutsLongTextsToAHeadAndItsLengthCard

/-- THE TOLD CARD OF 'zzlaws_internal_catalog_b1.FnBareSeesOnlyTheHeadAndTheLength'. -/
def fnBareSeesOnlyTheHeadAndTheLengthCard : Claim7 := { stood := { row := fnBareSeesOnlyTheHeadAndTheLengthRow, standIns := [], harness := (true, "de2d79a75f8ef2083019fdf737fc39a35c8afc77b4256e570901af601dff1aff"), looks := false }, told := true, goes := false }
def FnBareSeesOnlyTheHeadAndTheLengthToldSaid : Prop := Claim7.holds Tryf.pinned (.plain (OpenSpec.ofChange fnBareSeesOnlyTheHeadAndTheLengthSpec)) fnBareSeesOnlyTheHeadAndTheLengthCard
/-- ITS FALSE NEIGHBOUR. Refute it at one input. -/
def FnBareSeesOnlyTheHeadAndTheLengthToldWrongFalsely : Prop := Claim7.holds Tryf.pinned (.plain (OpenSpec.ofChange fnBareSeesOnlyTheHeadAndTheLengthWrong)) fnBareSeesOnlyTheHeadAndTheLengthCard
end Rows
end Go.Proofs.Qxb6604352aFmt
