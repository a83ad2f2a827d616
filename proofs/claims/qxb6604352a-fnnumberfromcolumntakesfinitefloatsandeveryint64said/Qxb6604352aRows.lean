/-
  No cell of these rows narrows 'for every input' (looked for: loops, veiled, ifaces, maps, wideKeys, modest, calm, conditions, laid).
  DERIVED. THE GIVEN ROWS OF THIS SEAT. 2 by the template 'for every input the law returns true; each argument reads behind the call as it read before'; 0 by the template 'total and deterministic' (their statements: Qxb6604352aTotals.lean).
  GIVEN WITH THE SEED: the statements are not yours to turn. If you find one false, say at which input.
  Laid BY PROGRAM, IN A SANDBOX (cutbox-rows.mjs): the forced cells as the released guide's own fill.sh prints them over the translation cc621cb42483cf1d… (all of the seat's roots in one cut). By AI agents, Wed Nov 11 2026. No macro, syntax, notation, axiom, sorry.
-/
import Derived.Test.Qxb6604352aChecked
import GoSem.Claim
import GoSem.ClaimJoined
import GoSem.ClaimMapViews
import Derived.JoinedTies
import Derived.KernelRfl
namespace Go.Proofs.Qxb6604352a
/- THE CELL 'sum', in the pinned program and in every row, IS THE sha256 OF THE DUMP (.gsa) THAT Qxb6604352aProg.lean LOADS. Nothing in Lean hashes anything: it is a label: what it is worth is what the hold of that sum in a sandbox is worth. -/
noncomputable def Try.pinned : Pinned := { name := "qxb6604352a", sum := "cc621cb42483cf1dfc17706b1dde8831997416b5fcdc2dd0e9ad5805b9475cd9", checked := Try.checked }
namespace Rows
def none {H : Type} : Left H := { results := [], args := [] }

/-- 'zzlaws_internal_catalog_b1.FnNumberFromColumnTakesFiniteFloatsAndEveryInt64': WHATEVER THE INPUT: true; the input reads as it did. -/
def fnNumberFromColumnTakesFiniteFloatsAndEveryInt64Spec : ChangeSpec := { name := "fnNumberFromColumnTakesFiniteFloatsAndEveryInt64", fn := fun _ => fun
  | [d1, d2, d3] => { results := [.lit (.bool true)], args := [d1, d2, d3] }
  | _ => none }
def fnNumberFromColumnTakesFiniteFloatsAndEveryInt64Row : OpenClaim := { program := "qxb6604352a", sum := "cc621cb42483cf1dfc17706b1dde8831997416b5fcdc2dd0e9ad5805b9475cd9", func := "example.com/fieldsieve/fieldsieve/zzlaws_internal_catalog_b1.FnNumberFromColumnTakesFiniteFloatsAndEveryInt64", spec := "fnNumberFromColumnTakesFiniteFloatsAndEveryInt64", inPlace := ["math.Float64bits", "math.Float64frombits"], apart := false }
def FnNumberFromColumnTakesFiniteFloatsAndEveryInt64Said : Prop := fnNumberFromColumnTakesFiniteFloatsAndEveryInt64Row.holds Try.pinned (OpenSpec.ofChange fnNumberFromColumnTakesFiniteFloatsAndEveryInt64Spec)

/-- ITS FALSE NEIGHBOUR: 'it returns false'. Refute it at one input. -/
def fnNumberFromColumnTakesFiniteFloatsAndEveryInt64Wrong : ChangeSpec := { name := "fnNumberFromColumnTakesFiniteFloatsAndEveryInt64", fn := fun _ => fun
  | [d1, d2, d3] => { results := [.lit (.bool false)], args := [d1, d2, d3] }
  | _ => none }
def FnNumberFromColumnTakesFiniteFloatsAndEveryInt64WrongFalsely : Prop := fnNumberFromColumnTakesFiniteFloatsAndEveryInt64Row.holds Try.pinned (OpenSpec.ofChange fnNumberFromColumnTakesFiniteFloatsAndEveryInt64Wrong)

/-- 'zzlaws_internal_catalog_b1.FnNumberFromColumnKeepsTheOrderOfIntegers': WHATEVER THE INPUT: true; the input reads as it did. -/
def fnNumberFromColumnKeepsTheOrderOfIntegersSpec : ChangeSpec := { name := "fnNumberFromColumnKeepsTheOrderOfIntegers", fn := fun _ => fun
  | [d1, d2] => { results := [.lit (.bool true)], args := [d1, d2] }
  | _ => none }
def fnNumberFromColumnKeepsTheOrderOfIntegersRow : OpenClaim := { program := "qxb6604352a", sum := "cc621cb42483cf1dfc17706b1dde8831997416b5fcdc2dd0e9ad5805b9475cd9", func := "example.com/fieldsieve/fieldsieve/zzlaws_internal_catalog_b1.FnNumberFromColumnKeepsTheOrderOfIntegers", spec := "fnNumberFromColumnKeepsTheOrderOfIntegers", inPlace := ["math.Float64bits", "math.Float64frombits"], apart := false }
def FnNumberFromColumnKeepsTheOrderOfIntegersSaid : Prop := fnNumberFromColumnKeepsTheOrderOfIntegersRow.holds Try.pinned (OpenSpec.ofChange fnNumberFromColumnKeepsTheOrderOfIntegersSpec)

/-- ITS FALSE NEIGHBOUR: 'it returns false'. Refute it at one input. -/
def fnNumberFromColumnKeepsTheOrderOfIntegersWrong : ChangeSpec := { name := "fnNumberFromColumnKeepsTheOrderOfIntegers", fn := fun _ => fun
  | [d1, d2] => { results := [.lit (.bool false)], args := [d1, d2] }
  | _ => none }
def FnNumberFromColumnKeepsTheOrderOfIntegersWrongFalsely : Prop := fnNumberFromColumnKeepsTheOrderOfIntegersRow.holds Try.pinned (OpenSpec.ofChange fnNumberFromColumnKeepsTheOrderOfIntegersWrong)

end Rows
end Go.Proofs.Qxb6604352a
