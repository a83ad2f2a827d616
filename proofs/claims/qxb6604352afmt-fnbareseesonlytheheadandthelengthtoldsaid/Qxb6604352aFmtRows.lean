/-
  No cell of these rows narrows 'for every input' (looked for: loops, veiled, ifaces, maps, wideKeys, modest, calm, conditions, laid).
  DERIVED. THE GIVEN ROWS OF THIS SEAT. 2 by the template 'for every input the law returns true; each argument reads behind the call as it read before'; 0 by the template 'total and deterministic' (their statements: Qxb6604352aFmtTotals.lean).
  GIVEN WITH THE SEED: the statements are not yours to turn. If you find one false, say at which input.
  Laid BY PROGRAM, IN A SANDBOX (cutbox-rows.mjs): the forced cells as the released guide's own fill.sh prints them over the translation cae2ffe7c2b2884c… (all of the seat's roots in one cut). By AI agents, Wed Nov 11 2026. No macro, syntax, notation, axiom, sorry.
-/
import Derived.Test.Qxb6604352aFmtChecked
import GoSem.Claim
import GoSem.ClaimJoined
import GoSem.ClaimMapViews
import Derived.JoinedTies
import Derived.KernelRfl
namespace Go.Proofs.Qxb6604352aFmt
/- THE CELL 'sum', in the pinned program and in every row, IS THE sha256 OF THE DUMP (.gsa) THAT Qxb6604352aFmtProg.lean LOADS. Nothing in Lean hashes anything: it is a label: what it is worth is what the hold of that sum in a sandbox is worth. -/
noncomputable def Tryf.pinned : Pinned := { name := "qxb6604352afmt", sum := "cae2ffe7c2b2884c4284e04675a90a5a2e84260e9e0322bd30f8514e228c2e5f", checked := Tryf.checked }
namespace Rows
def none {H : Type} : Left H := { results := [], args := [] }

/-- 'zzlaws_internal_catalog_b1.FnBareCutsLongTextsToAHeadAndItsLength': WHATEVER THE INPUT: true; the input reads as it did. -/
def fnBareCutsLongTextsToAHeadAndItsLengthSpec : ChangeSpec := { name := "fnBareCutsLongTextsToAHeadAndItsLength", fn := fun _ => fun
  | [d] => { results := [.lit (.bool true)], args := [d] }
  | _ => none }
def fnBareCutsLongTextsToAHeadAndItsLengthRow : OpenClaim := { program := "qxb6604352afmt", sum := "cae2ffe7c2b2884c4284e04675a90a5a2e84260e9e0322bd30f8514e228c2e5f", func := "example.com/fieldsieve/fieldsieve/zzlaws_internal_catalog_b1.FnBareCutsLongTextsToAHeadAndItsLength", spec := "fnBareCutsLongTextsToAHeadAndItsLength", stops := ["fmt.Sprintf"], inPlace := ["fmt.Sprintf"], apart := false }
/-- NO THEOREM (fmt's text is open here; it may be false): for the released tool's asking of the row's closed facts alone. THE STATEMENT IS 'FnBareCutsLongTextsToAHeadAndItsLengthToldSaid' (Qxb6604352aFmtCards.lean). -/
def FnBareCutsLongTextsToAHeadAndItsLengthFormAsk : Prop := fnBareCutsLongTextsToAHeadAndItsLengthRow.holds Tryf.pinned (OpenSpec.ofChange fnBareCutsLongTextsToAHeadAndItsLengthSpec)

/-- ITS FALSE NEIGHBOUR: 'it returns false'. Refute it at one input. -/
def fnBareCutsLongTextsToAHeadAndItsLengthWrong : ChangeSpec := { name := "fnBareCutsLongTextsToAHeadAndItsLength", fn := fun _ => fun
  | [d] => { results := [.lit (.bool false)], args := [d] }
  | _ => none }
def FnBareCutsLongTextsToAHeadAndItsLengthWrongFormAsk : Prop := fnBareCutsLongTextsToAHeadAndItsLengthRow.holds Tryf.pinned (OpenSpec.ofChange fnBareCutsLongTextsToAHeadAndItsLengthWrong)

/-- 'zzlaws_internal_catalog_b1.FnBareSeesOnlyTheHeadAndTheLength': WHATEVER THE INPUT: true; the input reads as it did. -/
def fnBareSeesOnlyTheHeadAndTheLengthSpec : ChangeSpec := { name := "fnBareSeesOnlyTheHeadAndTheLength", fn := fun _ => fun
  | [d] => { results := [.lit (.bool true)], args := [d] }
  | _ => none }
def fnBareSeesOnlyTheHeadAndTheLengthRow : OpenClaim := { program := "qxb6604352afmt", sum := "cae2ffe7c2b2884c4284e04675a90a5a2e84260e9e0322bd30f8514e228c2e5f", func := "example.com/fieldsieve/fieldsieve/zzlaws_internal_catalog_b1.FnBareSeesOnlyTheHeadAndTheLength", spec := "fnBareSeesOnlyTheHeadAndTheLength", stops := ["fmt.Sprintf"], inPlace := ["fmt.Sprintf"], apart := false }
/-- NO THEOREM (fmt's text is open here; it may be false): for the released tool's asking of the row's closed facts alone. THE STATEMENT IS 'FnBareSeesOnlyTheHeadAndTheLengthToldSaid' (Qxb6604352aFmtCards.lean). -/
def FnBareSeesOnlyTheHeadAndTheLengthFormAsk : Prop := fnBareSeesOnlyTheHeadAndTheLengthRow.holds Tryf.pinned (OpenSpec.ofChange fnBareSeesOnlyTheHeadAndTheLengthSpec)

/-- ITS FALSE NEIGHBOUR: 'it returns false'. Refute it at one input. -/
def fnBareSeesOnlyTheHeadAndTheLengthWrong : ChangeSpec := { name := "fnBareSeesOnlyTheHeadAndTheLength", fn := fun _ => fun
  | [d] => { results := [.lit (.bool false)], args := [d] }
  | _ => none }
def FnBareSeesOnlyTheHeadAndTheLengthWrongFormAsk : Prop := fnBareSeesOnlyTheHeadAndTheLengthRow.holds Tryf.pinned (OpenSpec.ofChange fnBareSeesOnlyTheHeadAndTheLengthWrong)

end Rows
end Go.Proofs.Qxb6604352aFmt
