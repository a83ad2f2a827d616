/-
  DERIVED. GIVEN WITH THE SEED: THE CARDS: each row of Qxb6604560aFmtRows.lean that lists a variable, with what it lists TIED to the program's text (the seventh form; the later family's looks); each row that meets fmt, with fmt's text TOLD by the authors' own Lean function (tested against real Go, not proved from fmt's source: count such statements apart). THE CARD IS WHAT COUNTS. Prove the row's statement (the work); the ties are given (Qxb6604560aFmtTie.lean); close each card by the builder's one call (the guide's Derived/Test/ToyasCard.lean, 'card_holds'). Laid BY PROGRAM, IN A SANDBOX (cutbox-door.mjs). By AI agents, Wed Nov 11 2026. No macro, syntax, notation, axiom, sorry.
-/
import Derived.Test.Qxb6604560aFmtRows
import GoSem.ClaimSeven
namespace Go.Proofs.Qxb6604560aFmt
namespace Rows

/-- THE TOLD AND TIED CARD OF 'zzlaws_root_b1.FnDecodeHexExact'. -/
def fnDecodeHexExactCard : Claim7 := { stood := { row := fnDecodeHexExactRow, standIns := [], harness := (true, "dc57b9f7e2e7d06412f22372d62d9d9676d8dc7c3f665d21f46e9bc52eb72eb3"), looks := true }, told := true, laidByText := true, laidKinds := [.sentinel], laidTests := true, laidLooks := .later, goes := false }
def FnDecodeHexExactToldSaid : Prop := Claim7.holds Tryf.pinned (.plain (OpenSpec.ofChange fnDecodeHexExactSpec)) fnDecodeHexExactCard
/-- ITS FALSE NEIGHBOUR. Refute it at one input. -/
def FnDecodeHexExactToldWrongFalsely : Prop := Claim7.holds Tryf.pinned (.plain (OpenSpec.ofChange fnDecodeHexExactWrong)) fnDecodeHexExactCard

/-- THE TOLD AND TIED CARD OF 'zzlaws_root_b1.FnDecodeHexRoundTrip'. -/
def fnDecodeHexRoundTripCard : Claim7 := { stood := { row := fnDecodeHexRoundTripRow, standIns := [], harness := (true, "dc57b9f7e2e7d06412f22372d62d9d9676d8dc7c3f665d21f46e9bc52eb72eb3"), looks := true }, told := true, laidByText := true, laidKinds := [.sentinel], laidTests := true, laidLooks := .later, goes := false }
def FnDecodeHexRoundTripToldSaid : Prop := Claim7.holds Tryf.pinned (.plain (OpenSpec.ofChange fnDecodeHexRoundTripSpec)) fnDecodeHexRoundTripCard
/-- ITS FALSE NEIGHBOUR. Refute it at one input. -/
def FnDecodeHexRoundTripToldWrongFalsely : Prop := Claim7.holds Tryf.pinned (.plain (OpenSpec.ofChange fnDecodeHexRoundTripWrong)) fnDecodeHexRoundTripCard

/-- THE TOLD AND TIED CARD OF 'zzlaws_root_b1.FnVerdictValueOfTokens'. -/
def fnVerdictValueOfTokensCard : Claim7 := { stood := { row := fnVerdictValueOfTokensRow, standIns := [], harness := (true, "dc57b9f7e2e7d06412f22372d62d9d9676d8dc7c3f665d21f46e9bc52eb72eb3"), looks := true }, told := true, laidByText := true, laidKinds := [.data, .data, .data], laidTests := true, laidLooks := .later, goes := false }
def FnVerdictValueOfTokensToldSaid : Prop := Claim7.holds Tryf.pinned (.plain (OpenSpec.ofChange fnVerdictValueOfTokensSpec)) fnVerdictValueOfTokensCard
/-- ITS FALSE NEIGHBOUR. Refute it at one input. -/
def FnVerdictValueOfTokensToldWrongFalsely : Prop := Claim7.holds Tryf.pinned (.plain (OpenSpec.ofChange fnVerdictValueOfTokensWrong)) fnVerdictValueOfTokensCard

/-- THE TOLD AND TIED CARD OF 'zzlaws_root_b1.FnVerdictValueRoundTrip'. -/
def fnVerdictValueRoundTripCard : Claim7 := { stood := { row := fnVerdictValueRoundTripRow, standIns := [], harness := (true, "dc57b9f7e2e7d06412f22372d62d9d9676d8dc7c3f665d21f46e9bc52eb72eb3"), looks := true }, told := true, laidByText := true, laidKinds := [.data, .data, .data], laidTests := true, laidLooks := .later, goes := false }
def FnVerdictValueRoundTripToldSaid : Prop := Claim7.holds Tryf.pinned (.plain (OpenSpec.ofChange fnVerdictValueRoundTripSpec)) fnVerdictValueRoundTripCard
/-- ITS FALSE NEIGHBOUR. Refute it at one input. -/
def FnVerdictValueRoundTripToldWrongFalsely : Prop := Claim7.holds Tryf.pinned (.plain (OpenSpec.ofChange fnVerdictValueRoundTripWrong)) fnVerdictValueRoundTripCard
end Rows
end Go.Proofs.Qxb6604560aFmt
