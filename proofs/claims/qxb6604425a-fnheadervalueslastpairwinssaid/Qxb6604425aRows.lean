/-
  No cell of these rows narrows 'for every input' (looked for: loops, veiled, ifaces, maps, wideKeys, modest, calm, conditions, laid).
  DERIVED. THE GIVEN ROWS OF THIS SEAT. 5 by the template 'for every input the law returns true; each argument reads behind the call as it read before'; 0 by the template 'total and deterministic' (their statements: Qxb6604425aTotals.lean).
  GIVEN WITH THE SEED: the statements are not yours to turn. If you find one false, say at which input.
  Laid BY PROGRAM, IN A SANDBOX (cutbox-rows.mjs): the forced cells as the released guide's own fill.sh prints them over the translation 4b7ff17e82a2e137… (all of the seat's roots in one cut). By AI agents, Wed Nov 11 2026. No macro, syntax, notation, axiom, sorry.
-/
import Derived.Test.Qxb6604425aChecked
import GoSem.Claim
import GoSem.ClaimJoined
import GoSem.ClaimMapViews
import Derived.JoinedTies
import Derived.KernelRfl
namespace Go.Proofs.Qxb6604425a
/- THE CELL 'sum', in the pinned program and in every row, IS THE sha256 OF THE DUMP (.gsa) THAT Qxb6604425aProg.lean LOADS. Nothing in Lean hashes anything: it is a label: what it is worth is what the hold of that sum in a sandbox is worth. -/
noncomputable def Try.pinned : Pinned := { name := "qxb6604425a", sum := "4b7ff17e82a2e137c9502842808f7b3cef978b097ca220c2ce6069800e903f24", checked := Try.checked }
namespace Rows
def none {H : Type} : Left H := { results := [], args := [] }

/-- 'zzlaws_root_b1.FnTextWordsLittleEndianHeadAndTail': WHATEVER THE INPUT: true; the input reads as it did. -/
def fnTextWordsLittleEndianHeadAndTailSpec : ChangeSpec := { name := "fnTextWordsLittleEndianHeadAndTail", fn := fun _ => fun
  | [d] => { results := [.lit (.bool true)], args := [d] }
  | _ => none }
def fnTextWordsLittleEndianHeadAndTailRow : OpenClaim := { program := "qxb6604425a", sum := "4b7ff17e82a2e137c9502842808f7b3cef978b097ca220c2ce6069800e903f24", func := "example.com/flat-mux/flat-mux/zzlaws_root_b1.FnTextWordsLittleEndianHeadAndTail", spec := "fnTextWordsLittleEndianHeadAndTail", apart := false }
def FnTextWordsLittleEndianHeadAndTailSaid : Prop := fnTextWordsLittleEndianHeadAndTailRow.holds Try.pinned (OpenSpec.ofChange fnTextWordsLittleEndianHeadAndTailSpec)

/-- ITS FALSE NEIGHBOUR: 'it returns false'. Refute it at one input. -/
def fnTextWordsLittleEndianHeadAndTailWrong : ChangeSpec := { name := "fnTextWordsLittleEndianHeadAndTail", fn := fun _ => fun
  | [d] => { results := [.lit (.bool false)], args := [d] }
  | _ => none }
def FnTextWordsLittleEndianHeadAndTailWrongFalsely : Prop := fnTextWordsLittleEndianHeadAndTailRow.holds Try.pinned (OpenSpec.ofChange fnTextWordsLittleEndianHeadAndTailWrong)

/-- 'zzlaws_root_b1.FnTextWordsAppendShiftsIn': WHATEVER THE INPUT: true; the input reads as it did. -/
def fnTextWordsAppendShiftsInSpec : ChangeSpec := { name := "fnTextWordsAppendShiftsIn", fn := fun _ => fun
  | [d1, d2] => { results := [.lit (.bool true)], args := [d1, d2] }
  | _ => none }
def fnTextWordsAppendShiftsInRow : OpenClaim := { program := "qxb6604425a", sum := "4b7ff17e82a2e137c9502842808f7b3cef978b097ca220c2ce6069800e903f24", func := "example.com/flat-mux/flat-mux/zzlaws_root_b1.FnTextWordsAppendShiftsIn", spec := "fnTextWordsAppendShiftsIn", apart := false }
def FnTextWordsAppendShiftsInSaid : Prop := fnTextWordsAppendShiftsInRow.holds Try.pinned (OpenSpec.ofChange fnTextWordsAppendShiftsInSpec)

/-- ITS FALSE NEIGHBOUR: 'it returns false'. Refute it at one input. -/
def fnTextWordsAppendShiftsInWrong : ChangeSpec := { name := "fnTextWordsAppendShiftsIn", fn := fun _ => fun
  | [d1, d2] => { results := [.lit (.bool false)], args := [d1, d2] }
  | _ => none }
def FnTextWordsAppendShiftsInWrongFalsely : Prop := fnTextWordsAppendShiftsInRow.holds Try.pinned (OpenSpec.ofChange fnTextWordsAppendShiftsInWrong)

/-- 'zzlaws_root_b1.FnHeaderValuesLastPairWins': WHATEVER THE INPUT: true; the input reads as it did. -/
def fnHeaderValuesLastPairWinsSpec : ChangeSpec := { name := "fnHeaderValuesLastPairWins", fn := fun _ => fun
  | [d1, d2, d3] => { results := [.lit (.bool true)], args := [d1, d2, d3] }
  | _ => none }
def fnHeaderValuesLastPairWinsRow : OpenClaim := { program := "qxb6604425a", sum := "4b7ff17e82a2e137c9502842808f7b3cef978b097ca220c2ce6069800e903f24", func := "example.com/flat-mux/flat-mux/zzlaws_root_b1.FnHeaderValuesLastPairWins", spec := "fnHeaderValuesLastPairWins", apart := false }
def FnHeaderValuesLastPairWinsSaid : Prop := fnHeaderValuesLastPairWinsRow.holds Try.pinned (OpenSpec.ofChange fnHeaderValuesLastPairWinsSpec)

/-- ITS FALSE NEIGHBOUR: 'it returns false'. Refute it at one input. -/
def fnHeaderValuesLastPairWinsWrong : ChangeSpec := { name := "fnHeaderValuesLastPairWins", fn := fun _ => fun
  | [d1, d2, d3] => { results := [.lit (.bool false)], args := [d1, d2, d3] }
  | _ => none }
def FnHeaderValuesLastPairWinsWrongFalsely : Prop := fnHeaderValuesLastPairWinsRow.holds Try.pinned (OpenSpec.ofChange fnHeaderValuesLastPairWinsWrong)

/-- 'zzlaws_root_b1.FnFlowLockHoldCountsEachHold': WHATEVER THE INPUT: true; the input reads as it did. -/
def fnFlowLockHoldCountsEachHoldSpec : ChangeSpec := { name := "fnFlowLockHoldCountsEachHold", fn := fun _ => fun
  | [d1, d2, d3] => { results := [.lit (.bool true)], args := [d1, d2, d3] }
  | _ => none }
def fnFlowLockHoldCountsEachHoldRow : OpenClaim := { program := "qxb6604425a", sum := "4b7ff17e82a2e137c9502842808f7b3cef978b097ca220c2ce6069800e903f24", func := "example.com/flat-mux/flat-mux/zzlaws_root_b1.FnFlowLockHoldCountsEachHold", spec := "fnFlowLockHoldCountsEachHold", inPlace := ["(*internal/sync.Mutex).Lock", "internal/race.Disable", "sync/atomic.CompareAndSwapInt32", "internal/race.Enable", "internal/race.Acquire", "(*internal/sync.Mutex).lockSlow", "internal/sync.runtime_canSpin", "internal/sync.runtime_doSpin", "internal/sync.throw", "internal/sync.runtime_nanotime", "internal/sync.runtime_SemacquireMutex", "sync/atomic.AddInt32", "(*internal/sync.Mutex).Unlock", "internal/race.ReleaseMerge", "(*internal/sync.Mutex).unlockSlow", "internal/sync.fatal", "internal/sync.runtime_Semrelease"], apart := false }
def FnFlowLockHoldCountsEachHoldSaid : Prop := fnFlowLockHoldCountsEachHoldRow.holds Try.pinned (OpenSpec.ofChange fnFlowLockHoldCountsEachHoldSpec)

/-- ITS FALSE NEIGHBOUR: 'it returns false'. Refute it at one input. -/
def fnFlowLockHoldCountsEachHoldWrong : ChangeSpec := { name := "fnFlowLockHoldCountsEachHold", fn := fun _ => fun
  | [d1, d2, d3] => { results := [.lit (.bool false)], args := [d1, d2, d3] }
  | _ => none }
def FnFlowLockHoldCountsEachHoldWrongFalsely : Prop := fnFlowLockHoldCountsEachHoldRow.holds Try.pinned (OpenSpec.ofChange fnFlowLockHoldCountsEachHoldWrong)

/-- 'zzlaws_root_b1.FnFlowLockHoldsKeptApart': WHATEVER THE INPUT: true; the input reads as it did. -/
def fnFlowLockHoldsKeptApartSpec : ChangeSpec := { name := "fnFlowLockHoldsKeptApart", fn := fun _ => fun
  | [d1, d2, d3] => { results := [.lit (.bool true)], args := [d1, d2, d3] }
  | _ => none }
def fnFlowLockHoldsKeptApartRow : OpenClaim := { program := "qxb6604425a", sum := "4b7ff17e82a2e137c9502842808f7b3cef978b097ca220c2ce6069800e903f24", func := "example.com/flat-mux/flat-mux/zzlaws_root_b1.FnFlowLockHoldsKeptApart", spec := "fnFlowLockHoldsKeptApart", inPlace := ["(*internal/sync.Mutex).Lock", "internal/race.Disable", "sync/atomic.CompareAndSwapInt32", "internal/race.Enable", "internal/race.Acquire", "(*internal/sync.Mutex).lockSlow", "internal/sync.runtime_canSpin", "internal/sync.runtime_doSpin", "internal/sync.throw", "internal/sync.runtime_nanotime", "internal/sync.runtime_SemacquireMutex", "sync/atomic.AddInt32", "(*internal/sync.Mutex).Unlock", "internal/race.ReleaseMerge", "(*internal/sync.Mutex).unlockSlow", "internal/sync.fatal", "internal/sync.runtime_Semrelease"], apart := false }
def FnFlowLockHoldsKeptApartSaid : Prop := fnFlowLockHoldsKeptApartRow.holds Try.pinned (OpenSpec.ofChange fnFlowLockHoldsKeptApartSpec)

/-- ITS FALSE NEIGHBOUR: 'it returns false'. Refute it at one input. -/
def fnFlowLockHoldsKeptApartWrong : ChangeSpec := { name := "fnFlowLockHoldsKeptApart", fn := fun _ => fun
  | [d1, d2, d3] => { results := [.lit (.bool false)], args := [d1, d2, d3] }
  | _ => none }
def FnFlowLockHoldsKeptApartWrongFalsely : Prop := fnFlowLockHoldsKeptApartRow.holds Try.pinned (OpenSpec.ofChange fnFlowLockHoldsKeptApartWrong)

end Rows
end Go.Proofs.Qxb6604425a
