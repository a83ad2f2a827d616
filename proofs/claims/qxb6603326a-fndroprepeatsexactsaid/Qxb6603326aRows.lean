/-
  No cell of these rows narrows 'for every input' (looked for: loops, veiled, ifaces, maps, wideKeys, modest, calm, conditions, laid).
  DERIVED. THE GIVEN ROWS OF THIS SEAT. 4 by the template 'for every input the law returns true; each argument reads behind the call as it read before'; 0 by the template 'total and deterministic' (their statements: Qxb6603326aTotals.lean).
  GIVEN WITH THE SEED: the statements are not yours to turn. If you find one false, say at which input.
  Laid BY PROGRAM, IN A SANDBOX (cutbox-rows.mjs): the forced cells as the released guide's own fill.sh prints them over the translation 168a1d87f1c40e51… (all of the seat's roots in one cut). By AI agents, Wed Nov 11 2026. No macro, syntax, notation, axiom, sorry.
-/
import Derived.Test.Qxb6603326aChecked
import GoSem.Claim
import GoSem.ClaimJoined
import GoSem.ClaimMapViews
import Derived.JoinedTies
import Derived.KernelRfl
namespace Go.Proofs.Qxb6603326a
/- THE CELL 'sum', in the pinned program and in every row, IS THE sha256 OF THE DUMP (.gsa) THAT Qxb6603326aProg.lean LOADS. Nothing in Lean hashes anything: it is a label: what it is worth is what the hold of that sum in a sandbox is worth. -/
noncomputable def Try.pinned : Pinned := { name := "qxb6603326a", sum := "168a1d87f1c40e514d635d8bd9ef4fea555d85985193725d7317d926a3bc96ac", checked := Try.checked }
namespace Rows
def none {H : Type} : Left H := { results := [], args := [] }

/-- 'zzlaws_root_b1.FnDropRepeatsExact': WHATEVER THE INPUT: true; the input reads as it did. -/
def fnDropRepeatsExactSpec : ChangeSpec := { name := "fnDropRepeatsExact", fn := fun _ => fun
  | [d1, d2, d3] => { results := [.lit (.bool true)], args := [d1, d2, d3] }
  | _ => none }
def fnDropRepeatsExactRow : OpenClaim := { program := "qxb6603326a", sum := "168a1d87f1c40e514d635d8bd9ef4fea555d85985193725d7317d926a3bc96ac", func := "example.com/glyphguard/glyphguard/zzlaws_root_b1.FnDropRepeatsExact", spec := "fnDropRepeatsExact", apart := false }
def FnDropRepeatsExactSaid : Prop := fnDropRepeatsExactRow.holds Try.pinned (OpenSpec.ofChange fnDropRepeatsExactSpec)

/-- ITS FALSE NEIGHBOUR: 'it returns false'. Refute it at one input. -/
def fnDropRepeatsExactWrong : ChangeSpec := { name := "fnDropRepeatsExact", fn := fun _ => fun
  | [d1, d2, d3] => { results := [.lit (.bool false)], args := [d1, d2, d3] }
  | _ => none }
def FnDropRepeatsExactWrongFalsely : Prop := fnDropRepeatsExactRow.holds Try.pinned (OpenSpec.ofChange fnDropRepeatsExactWrong)

/-- 'zzlaws_root_b1.FnDropRepeatsIdempotent': WHATEVER THE INPUT: true; the input reads as it did. -/
def fnDropRepeatsIdempotentSpec : ChangeSpec := { name := "fnDropRepeatsIdempotent", fn := fun _ => fun
  | [d1, d2, d3] => { results := [.lit (.bool true)], args := [d1, d2, d3] }
  | _ => none }
def fnDropRepeatsIdempotentRow : OpenClaim := { program := "qxb6603326a", sum := "168a1d87f1c40e514d635d8bd9ef4fea555d85985193725d7317d926a3bc96ac", func := "example.com/glyphguard/glyphguard/zzlaws_root_b1.FnDropRepeatsIdempotent", spec := "fnDropRepeatsIdempotent", apart := false }
def FnDropRepeatsIdempotentSaid : Prop := fnDropRepeatsIdempotentRow.holds Try.pinned (OpenSpec.ofChange fnDropRepeatsIdempotentSpec)

/-- ITS FALSE NEIGHBOUR: 'it returns false'. Refute it at one input. -/
def fnDropRepeatsIdempotentWrong : ChangeSpec := { name := "fnDropRepeatsIdempotent", fn := fun _ => fun
  | [d1, d2, d3] => { results := [.lit (.bool false)], args := [d1, d2, d3] }
  | _ => none }
def FnDropRepeatsIdempotentWrongFalsely : Prop := fnDropRepeatsIdempotentRow.holds Try.pinned (OpenSpec.ofChange fnDropRepeatsIdempotentWrong)

/-- 'zzlaws_root_b1.FnIntersectPerScript': WHATEVER THE INPUT: true; the input reads as it did. -/
def fnIntersectPerScriptSpec : ChangeSpec := { name := "fnIntersectPerScript", fn := fun _ => fun
  | [d1, d2] => { results := [.lit (.bool true)], args := [d1, d2] }
  | _ => none }
def fnIntersectPerScriptRow : OpenClaim := { program := "qxb6603326a", sum := "168a1d87f1c40e514d635d8bd9ef4fea555d85985193725d7317d926a3bc96ac", func := "example.com/glyphguard/glyphguard/zzlaws_root_b1.FnIntersectPerScript", spec := "fnIntersectPerScript", apart := false }
def FnIntersectPerScriptSaid : Prop := fnIntersectPerScriptRow.holds Try.pinned (OpenSpec.ofChange fnIntersectPerScriptSpec)

/-- ITS FALSE NEIGHBOUR: 'it returns false'. Refute it at one input. -/
def fnIntersectPerScriptWrong : ChangeSpec := { name := "fnIntersectPerScript", fn := fun _ => fun
  | [d1, d2] => { results := [.lit (.bool false)], args := [d1, d2] }
  | _ => none }
def FnIntersectPerScriptWrongFalsely : Prop := fnIntersectPerScriptRow.holds Try.pinned (OpenSpec.ofChange fnIntersectPerScriptWrong)

/-- 'zzlaws_root_b1.FnIntersectGreatestLowerBound': WHATEVER THE INPUT: true; the input reads as it did. -/
def fnIntersectGreatestLowerBoundSpec : ChangeSpec := { name := "fnIntersectGreatestLowerBound", fn := fun _ => fun
  | [d1, d2, d3] => { results := [.lit (.bool true)], args := [d1, d2, d3] }
  | _ => none }
def fnIntersectGreatestLowerBoundRow : OpenClaim := { program := "qxb6603326a", sum := "168a1d87f1c40e514d635d8bd9ef4fea555d85985193725d7317d926a3bc96ac", func := "example.com/glyphguard/glyphguard/zzlaws_root_b1.FnIntersectGreatestLowerBound", spec := "fnIntersectGreatestLowerBound", apart := false }
def FnIntersectGreatestLowerBoundSaid : Prop := fnIntersectGreatestLowerBoundRow.holds Try.pinned (OpenSpec.ofChange fnIntersectGreatestLowerBoundSpec)

/-- ITS FALSE NEIGHBOUR: 'it returns false'. Refute it at one input. -/
def fnIntersectGreatestLowerBoundWrong : ChangeSpec := { name := "fnIntersectGreatestLowerBound", fn := fun _ => fun
  | [d1, d2, d3] => { results := [.lit (.bool false)], args := [d1, d2, d3] }
  | _ => none }
def FnIntersectGreatestLowerBoundWrongFalsely : Prop := fnIntersectGreatestLowerBoundRow.holds Try.pinned (OpenSpec.ofChange fnIntersectGreatestLowerBoundWrong)

end Rows
end Go.Proofs.Qxb6603326a
