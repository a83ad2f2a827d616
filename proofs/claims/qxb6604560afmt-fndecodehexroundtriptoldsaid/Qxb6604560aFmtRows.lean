/-
  NARROWER THAN 'FOR EVERY INPUT', by the rows' own cells (each row's printed sentence says how): FnDecodeHexExact: laid · FnDecodeHexRoundTrip: laid · FnVerdictValueOfTokens: laid · FnVerdictValueRoundTrip: laid.
  DERIVED. THE GIVEN ROWS OF THIS SEAT. 4 by the template 'for every input the law returns true; each argument reads behind the call as it read before'; 0 by the template 'total and deterministic' (their statements: Qxb6604560aFmtTotals.lean).
  GIVEN WITH THE SEED: the statements are not yours to turn. If you find one false, say at which input.
  Laid BY PROGRAM, IN A SANDBOX (cutbox-rows.mjs): the forced cells as the released guide's own fill.sh prints them over the translation a97127c5f1c87f8b… (all of the seat's roots in one cut). By AI agents, Wed Nov 11 2026. No macro, syntax, notation, axiom, sorry.
-/
import Derived.Test.Qxb6604560aFmtChecked
import GoSem.Claim
import GoSem.ClaimJoined
import GoSem.ClaimMapViews
import Derived.JoinedTies
import Derived.KernelRfl
namespace Go.Proofs.Qxb6604560aFmt
/- THE CELL 'sum', in the pinned program and in every row, IS THE sha256 OF THE DUMP (.gsa) THAT Qxb6604560aFmtProg.lean LOADS. Nothing in Lean hashes anything: it is a label: what it is worth is what the hold of that sum in a sandbox is worth. -/
noncomputable def Tryf.pinned : Pinned := { name := "qxb6604560afmt", sum := "a97127c5f1c87f8bca7860b85faf05d9d6092059fd257c67c0fb110745df4a28", checked := Tryf.checked }
namespace Rows
def none {H : Type} : Left H := { results := [], args := [] }

/- WHAT THE LISTED PACKAGE-LEVEL VARIABLES READ AS WHEN THE CALL BEGINS. Each datum BY PROGRAM (the guide's laid-datum.mjs) off the statement by which the dump's own 'gosem.cut.vars' lays the variable. In a bare row this is a premise. The card (Qxb6604560aFmtCards.lean) ties it to the program's text. -/
def laid_encoding_hex_ErrLength {H : Type} : DataW H := .iface "*errors.errorString" (.ptr (.agg [.lit (.string [101, 110, 99, 111, 100, 105, 110, 103, 47, 104, 101, 120, 58, 32, 111, 100, 100, 32, 108, 101, 110, 103, 116, 104, 32, 104, 101, 120, 32, 115, 116, 114, 105, 110, 103])]))
def laid_math_bits_deBruijn32tab {H : Type} : DataW H := .agg [.lit (.int .u8 0), .lit (.int .u8 1), .lit (.int .u8 28), .lit (.int .u8 2), .lit (.int .u8 29), .lit (.int .u8 14), .lit (.int .u8 24), .lit (.int .u8 3), .lit (.int .u8 30), .lit (.int .u8 22), .lit (.int .u8 20), .lit (.int .u8 15), .lit (.int .u8 25), .lit (.int .u8 17), .lit (.int .u8 4), .lit (.int .u8 8), .lit (.int .u8 31), .lit (.int .u8 27), .lit (.int .u8 13), .lit (.int .u8 23), .lit (.int .u8 21), .lit (.int .u8 19), .lit (.int .u8 16), .lit (.int .u8 7), .lit (.int .u8 26), .lit (.int .u8 12), .lit (.int .u8 18), .lit (.int .u8 6), .lit (.int .u8 11), .lit (.int .u8 5), .lit (.int .u8 10), .lit (.int .u8 9)]
def laid_math_bits_deBruijn64tab {H : Type} : DataW H := .agg [.lit (.int .u8 0), .lit (.int .u8 1), .lit (.int .u8 56), .lit (.int .u8 2), .lit (.int .u8 57), .lit (.int .u8 49), .lit (.int .u8 28), .lit (.int .u8 3), .lit (.int .u8 61), .lit (.int .u8 58), .lit (.int .u8 42), .lit (.int .u8 50), .lit (.int .u8 38), .lit (.int .u8 29), .lit (.int .u8 17), .lit (.int .u8 4), .lit (.int .u8 62), .lit (.int .u8 47), .lit (.int .u8 59), .lit (.int .u8 36), .lit (.int .u8 45), .lit (.int .u8 43), .lit (.int .u8 51), .lit (.int .u8 22), .lit (.int .u8 53), .lit (.int .u8 39), .lit (.int .u8 33), .lit (.int .u8 30), .lit (.int .u8 24), .lit (.int .u8 18), .lit (.int .u8 12), .lit (.int .u8 5), .lit (.int .u8 63), .lit (.int .u8 55), .lit (.int .u8 48), .lit (.int .u8 27), .lit (.int .u8 60), .lit (.int .u8 41), .lit (.int .u8 37), .lit (.int .u8 16), .lit (.int .u8 46), .lit (.int .u8 35), .lit (.int .u8 44), .lit (.int .u8 21), .lit (.int .u8 52), .lit (.int .u8 32), .lit (.int .u8 23), .lit (.int .u8 11), .lit (.int .u8 54), .lit (.int .u8 26), .lit (.int .u8 40), .lit (.int .u8 15), .lit (.int .u8 34), .lit (.int .u8 20), .lit (.int .u8 31), .lit (.int .u8 10), .lit (.int .u8 25), .lit (.int .u8 14), .lit (.int .u8 19), .lit (.int .u8 9), .lit (.int .u8 13), .lit (.int .u8 8), .lit (.int .u8 7), .lit (.int .u8 6)]
def laid_internal_strconv_uint64pow10 {H : Type} : DataW H := .agg [.lit (.int .u64 1), .lit (.int .u64 10), .lit (.int .u64 100), .lit (.int .u64 1000), .lit (.int .u64 10000), .lit (.int .u64 100000), .lit (.int .u64 1000000), .lit (.int .u64 10000000), .lit (.int .u64 100000000), .lit (.int .u64 1000000000), .lit (.int .u64 10000000000), .lit (.int .u64 100000000000), .lit (.int .u64 1000000000000), .lit (.int .u64 10000000000000), .lit (.int .u64 100000000000000), .lit (.int .u64 1000000000000000), .lit (.int .u64 10000000000000000), .lit (.int .u64 100000000000000000), .lit (.int .u64 1000000000000000000), .lit (.int .u64 10000000000000000000)]

/-- 'zzlaws_root_b1.FnDecodeHexExact': WHATEVER THE INPUT: true; the input reads as it did. -/
def fnDecodeHexExactSpec : ChangeSpec := { name := "fnDecodeHexExact", fn := fun _ => fun
  | [d1, d2, d3] => { results := [.lit (.bool true)], args := [d1, d2, d3] }
  | _ => none }
def fnDecodeHexExactRow : OpenClaim := { program := "qxb6604560afmt", sum := "a97127c5f1c87f8bca7860b85faf05d9d6092059fd257c67c0fb110745df4a28", func := "example.com/runnymede/runnymede/zzlaws_root_b1.FnDecodeHexExact", spec := "fnDecodeHexExact", stops := ["fmt.errorf, its operands' methods called", "fmt.Sprintf"], inPlace := ["fmt.errorf"], unfollowed := true, recurses := true, named := ["encoding/hex.ErrLength"], apart := false, laid := [("encoding/hex.ErrLength", laid_encoding_hex_ErrLength)] }
/-- NO THEOREM (fmt's text is open here; it may be false): for the released tool's asking of the row's closed facts alone. THE STATEMENT IS 'FnDecodeHexExactToldSaid' (Qxb6604560aFmtCards.lean). -/
def FnDecodeHexExactFormAsk : Prop := fnDecodeHexExactRow.holds Tryf.pinned (OpenSpec.ofChange fnDecodeHexExactSpec)

/-- ITS FALSE NEIGHBOUR: 'it returns false'. Refute it at one input. -/
def fnDecodeHexExactWrong : ChangeSpec := { name := "fnDecodeHexExact", fn := fun _ => fun
  | [d1, d2, d3] => { results := [.lit (.bool false)], args := [d1, d2, d3] }
  | _ => none }
def FnDecodeHexExactWrongFormAsk : Prop := fnDecodeHexExactRow.holds Tryf.pinned (OpenSpec.ofChange fnDecodeHexExactWrong)

/-- 'zzlaws_root_b1.FnDecodeHexRoundTrip': WHATEVER THE INPUT: true; the input reads as it did. -/
def fnDecodeHexRoundTripSpec : ChangeSpec := { name := "fnDecodeHexRoundTrip", fn := fun _ => fun
  | [d1, d2] => { results := [.lit (.bool true)], args := [d1, d2] }
  | _ => none }
def fnDecodeHexRoundTripRow : OpenClaim := { program := "qxb6604560afmt", sum := "a97127c5f1c87f8bca7860b85faf05d9d6092059fd257c67c0fb110745df4a28", func := "example.com/runnymede/runnymede/zzlaws_root_b1.FnDecodeHexRoundTrip", spec := "fnDecodeHexRoundTrip", stops := ["fmt.errorf, its operands' methods called", "fmt.Sprintf"], inPlace := ["fmt.errorf"], unfollowed := true, recurses := true, named := ["encoding/hex.ErrLength"], apart := false, laid := [("encoding/hex.ErrLength", laid_encoding_hex_ErrLength)] }
/-- NO THEOREM (fmt's text is open here; it may be false): for the released tool's asking of the row's closed facts alone. THE STATEMENT IS 'FnDecodeHexRoundTripToldSaid' (Qxb6604560aFmtCards.lean). -/
def FnDecodeHexRoundTripFormAsk : Prop := fnDecodeHexRoundTripRow.holds Tryf.pinned (OpenSpec.ofChange fnDecodeHexRoundTripSpec)

/-- ITS FALSE NEIGHBOUR: 'it returns false'. Refute it at one input. -/
def fnDecodeHexRoundTripWrong : ChangeSpec := { name := "fnDecodeHexRoundTrip", fn := fun _ => fun
  | [d1, d2] => { results := [.lit (.bool false)], args := [d1, d2] }
  | _ => none }
def FnDecodeHexRoundTripWrongFormAsk : Prop := fnDecodeHexRoundTripRow.holds Tryf.pinned (OpenSpec.ofChange fnDecodeHexRoundTripWrong)

/-- 'zzlaws_root_b1.FnVerdictValueOfTokens': WHATEVER THE INPUT: true; the input reads as it did. -/
def fnVerdictValueOfTokensSpec : ChangeSpec := { name := "fnVerdictValueOfTokens", fn := fun _ => fun
  | [d1, d2, d3] => { results := [.lit (.bool true)], args := [d1, d2, d3] }
  | _ => none }
def fnVerdictValueOfTokensRow : OpenClaim := { program := "qxb6604560afmt", sum := "a97127c5f1c87f8bca7860b85faf05d9d6092059fd257c67c0fb110745df4a28", func := "example.com/runnymede/runnymede/zzlaws_root_b1.FnVerdictValueOfTokens", spec := "fnVerdictValueOfTokens", stops := ["fmt.errorf, its operands' methods called", "fmt.Sprintf"], inPlace := ["fmt.errorf"], unfollowed := true, recurses := true, named := ["internal/strconv.uint64pow10", "math/bits.deBruijn32tab", "math/bits.deBruijn64tab"], apart := false, laid := [("math/bits.deBruijn32tab", laid_math_bits_deBruijn32tab), ("math/bits.deBruijn64tab", laid_math_bits_deBruijn64tab), ("internal/strconv.uint64pow10", laid_internal_strconv_uint64pow10)] }
/-- NO THEOREM (fmt's text is open here; it may be false): for the released tool's asking of the row's closed facts alone. THE STATEMENT IS 'FnVerdictValueOfTokensToldSaid' (Qxb6604560aFmtCards.lean). -/
def FnVerdictValueOfTokensFormAsk : Prop := fnVerdictValueOfTokensRow.holds Tryf.pinned (OpenSpec.ofChange fnVerdictValueOfTokensSpec)

/-- ITS FALSE NEIGHBOUR: 'it returns false'. Refute it at one input. -/
def fnVerdictValueOfTokensWrong : ChangeSpec := { name := "fnVerdictValueOfTokens", fn := fun _ => fun
  | [d1, d2, d3] => { results := [.lit (.bool false)], args := [d1, d2, d3] }
  | _ => none }
def FnVerdictValueOfTokensWrongFormAsk : Prop := fnVerdictValueOfTokensRow.holds Tryf.pinned (OpenSpec.ofChange fnVerdictValueOfTokensWrong)

/-- 'zzlaws_root_b1.FnVerdictValueRoundTrip': WHATEVER THE INPUT: true; the input reads as it did. -/
def fnVerdictValueRoundTripSpec : ChangeSpec := { name := "fnVerdictValueRoundTrip", fn := fun _ => fun
  | [d] => { results := [.lit (.bool true)], args := [d] }
  | _ => none }
def fnVerdictValueRoundTripRow : OpenClaim := { program := "qxb6604560afmt", sum := "a97127c5f1c87f8bca7860b85faf05d9d6092059fd257c67c0fb110745df4a28", func := "example.com/runnymede/runnymede/zzlaws_root_b1.FnVerdictValueRoundTrip", spec := "fnVerdictValueRoundTrip", stops := ["fmt.errorf, its operands' methods called", "fmt.Sprintf"], inPlace := ["fmt.errorf"], unfollowed := true, recurses := true, named := ["internal/strconv.uint64pow10", "math/bits.deBruijn32tab", "math/bits.deBruijn64tab"], apart := false, laid := [("math/bits.deBruijn32tab", laid_math_bits_deBruijn32tab), ("math/bits.deBruijn64tab", laid_math_bits_deBruijn64tab), ("internal/strconv.uint64pow10", laid_internal_strconv_uint64pow10)] }
/-- NO THEOREM (fmt's text is open here; it may be false): for the released tool's asking of the row's closed facts alone. THE STATEMENT IS 'FnVerdictValueRoundTripToldSaid' (Qxb6604560aFmtCards.lean). -/
def FnVerdictValueRoundTripFormAsk : Prop := fnVerdictValueRoundTripRow.holds Tryf.pinned (OpenSpec.ofChange fnVerdictValueRoundTripSpec)

/-- ITS FALSE NEIGHBOUR: 'it returns false'. Refute it at one input. -/
def fnVerdictValueRoundTripWrong : ChangeSpec := { name := "fnVerdictValueRoundTrip", fn := fun _ => fun
  | [d] => { results := [.lit (.bool false)], args := [d] }
  | _ => none }
def FnVerdictValueRoundTripWrongFormAsk : Prop := fnVerdictValueRoundTripRow.holds Tryf.pinned (OpenSpec.ofChange fnVerdictValueRoundTripWrong)

end Rows
end Go.Proofs.Qxb6604560aFmt
