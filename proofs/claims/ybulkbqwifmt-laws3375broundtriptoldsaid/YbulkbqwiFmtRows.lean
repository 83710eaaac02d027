/-
  NARROWER THAN 'FOR EVERY INPUT', by the rows' own cells (each row's printed sentence says how): LawS3375BRoundTrip: laid · LawS3375CRoundTrip: laid.
  DERIVED. THE GIVEN ROWS OF THIS SEAT. 6 by the template 'for every input the law returns true; each argument reads behind the call as it read before'; 0 by the template 'total and deterministic' (their statements: YbulkbqwiFmtTotals.lean).
  GIVEN WITH THE SEED: the statements are not yours to turn. If you find one false, say at which input.
  Laid BY PROGRAM, IN A SANDBOX (cutbox-rows.mjs): the forced cells as the released guide's own fill.sh prints them over the translation 5b1467798c7a5808… (all of the seat's roots in one cut). By AI agents, Wed Nov 11 2026. No macro, syntax, notation, axiom, sorry.
-/
import Derived.Test.YbulkbqwiFmtChecked
import GoSem.Claim
import GoSem.ClaimJoined
import GoSem.ClaimMapViews
import Derived.JoinedTies
import Derived.KernelRfl
namespace Go.Proofs.YbulkbqwiFmt
/- THE CELL 'sum', in the pinned program and in every row, IS THE sha256 OF THE DUMP (.gsa) THAT YbulkbqwiFmtProg.lean LOADS. Nothing in Lean hashes anything: it is a label: what it is worth is what the hold of that sum in a sandbox is worth. -/
noncomputable def Ybaf.pinned : Pinned := { name := "ybulkbqwifmt", sum := "5b1467798c7a5808fb85c687b5457b457e46c317bf3bc9e577fc330207b542f9", checked := Ybaf.checked }
namespace Rows
def none {H : Type} : Left H := { results := [], args := [] }

/- WHAT THE LISTED PACKAGE-LEVEL VARIABLES READ AS WHEN THE CALL BEGINS. Each datum BY PROGRAM (the guide's laid-datum.mjs) off the statement by which the dump's own 'gosem.cut.vars' lays the variable. In a bare row this is a premise. The card (YbulkbqwiFmtCards.lean) ties it to the program's text. -/
def laid_math_bits_deBruijn32tab {H : Type} : DataW H := .agg [.lit (.int .u8 0), .lit (.int .u8 1), .lit (.int .u8 28), .lit (.int .u8 2), .lit (.int .u8 29), .lit (.int .u8 14), .lit (.int .u8 24), .lit (.int .u8 3), .lit (.int .u8 30), .lit (.int .u8 22), .lit (.int .u8 20), .lit (.int .u8 15), .lit (.int .u8 25), .lit (.int .u8 17), .lit (.int .u8 4), .lit (.int .u8 8), .lit (.int .u8 31), .lit (.int .u8 27), .lit (.int .u8 13), .lit (.int .u8 23), .lit (.int .u8 21), .lit (.int .u8 19), .lit (.int .u8 16), .lit (.int .u8 7), .lit (.int .u8 26), .lit (.int .u8 12), .lit (.int .u8 18), .lit (.int .u8 6), .lit (.int .u8 11), .lit (.int .u8 5), .lit (.int .u8 10), .lit (.int .u8 9)]
def laid_math_bits_deBruijn64tab {H : Type} : DataW H := .agg [.lit (.int .u8 0), .lit (.int .u8 1), .lit (.int .u8 56), .lit (.int .u8 2), .lit (.int .u8 57), .lit (.int .u8 49), .lit (.int .u8 28), .lit (.int .u8 3), .lit (.int .u8 61), .lit (.int .u8 58), .lit (.int .u8 42), .lit (.int .u8 50), .lit (.int .u8 38), .lit (.int .u8 29), .lit (.int .u8 17), .lit (.int .u8 4), .lit (.int .u8 62), .lit (.int .u8 47), .lit (.int .u8 59), .lit (.int .u8 36), .lit (.int .u8 45), .lit (.int .u8 43), .lit (.int .u8 51), .lit (.int .u8 22), .lit (.int .u8 53), .lit (.int .u8 39), .lit (.int .u8 33), .lit (.int .u8 30), .lit (.int .u8 24), .lit (.int .u8 18), .lit (.int .u8 12), .lit (.int .u8 5), .lit (.int .u8 63), .lit (.int .u8 55), .lit (.int .u8 48), .lit (.int .u8 27), .lit (.int .u8 60), .lit (.int .u8 41), .lit (.int .u8 37), .lit (.int .u8 16), .lit (.int .u8 46), .lit (.int .u8 35), .lit (.int .u8 44), .lit (.int .u8 21), .lit (.int .u8 52), .lit (.int .u8 32), .lit (.int .u8 23), .lit (.int .u8 11), .lit (.int .u8 54), .lit (.int .u8 26), .lit (.int .u8 40), .lit (.int .u8 15), .lit (.int .u8 34), .lit (.int .u8 20), .lit (.int .u8 31), .lit (.int .u8 10), .lit (.int .u8 25), .lit (.int .u8 14), .lit (.int .u8 19), .lit (.int .u8 9), .lit (.int .u8 13), .lit (.int .u8 8), .lit (.int .u8 7), .lit (.int .u8 6)]
def laid_internal_strconv_uint64pow10 {H : Type} : DataW H := .agg [.lit (.int .u64 1), .lit (.int .u64 10), .lit (.int .u64 100), .lit (.int .u64 1000), .lit (.int .u64 10000), .lit (.int .u64 100000), .lit (.int .u64 1000000), .lit (.int .u64 10000000), .lit (.int .u64 100000000), .lit (.int .u64 1000000000), .lit (.int .u64 10000000000), .lit (.int .u64 100000000000), .lit (.int .u64 1000000000000), .lit (.int .u64 10000000000000), .lit (.int .u64 100000000000000), .lit (.int .u64 1000000000000000), .lit (.int .u64 10000000000000000), .lit (.int .u64 100000000000000000), .lit (.int .u64 1000000000000000000), .lit (.int .u64 10000000000000000000)]

/-- 'wallstep.LawS3375BModel': WHATEVER THE INPUT: true; the input reads as it did. -/
def lawS3375BModelSpec : ChangeSpec := { name := "lawS3375BModel", fn := fun _ => fun
  | [d] => { results := [.lit (.bool true)], args := [d] }
  | _ => none }
def lawS3375BModelRow : OpenClaim := { program := "ybulkbqwifmt", sum := "5b1467798c7a5808fb85c687b5457b457e46c317bf3bc9e577fc330207b542f9", func := "example.com/wallstep/wallstep.LawS3375BModel", spec := "lawS3375BModel", stops := ["fmt.errorf"], inPlace := ["fmt.errorf"], named := ["encoding/binary.LittleEndian"], apart := false }
/-- NO THEOREM (fmt's text is open here; it may be false): for the released tool's asking of the row's closed facts alone. THE STATEMENT IS 'LawS3375BModelToldSaid' (YbulkbqwiFmtCards.lean). -/
def LawS3375BModelFormAsk : Prop := lawS3375BModelRow.holds Ybaf.pinned (OpenSpec.ofChange lawS3375BModelSpec)

/-- ITS FALSE NEIGHBOUR: 'it returns false'. Refute it at one input. -/
def lawS3375BModelWrong : ChangeSpec := { name := "lawS3375BModel", fn := fun _ => fun
  | [d] => { results := [.lit (.bool false)], args := [d] }
  | _ => none }
def LawS3375BModelWrongFormAsk : Prop := lawS3375BModelRow.holds Ybaf.pinned (OpenSpec.ofChange lawS3375BModelWrong)

/-- 'wallstep.LawS3375BDigits': WHATEVER THE INPUT: true; the input reads as it did. -/
def lawS3375BDigitsSpec : ChangeSpec := { name := "lawS3375BDigits", fn := fun _ => fun
  | [d1, d2, d3] => { results := [.lit (.bool true)], args := [d1, d2, d3] }
  | _ => none }
def lawS3375BDigitsRow : OpenClaim := { program := "ybulkbqwifmt", sum := "5b1467798c7a5808fb85c687b5457b457e46c317bf3bc9e577fc330207b542f9", func := "example.com/wallstep/wallstep.LawS3375BDigits", spec := "lawS3375BDigits", stops := ["fmt.errorf"], inPlace := ["fmt.errorf"], named := ["encoding/binary.LittleEndian"], apart := false }
/-- NO THEOREM (fmt's text is open here; it may be false): for the released tool's asking of the row's closed facts alone. THE STATEMENT IS 'LawS3375BDigitsToldSaid' (YbulkbqwiFmtCards.lean). -/
def LawS3375BDigitsFormAsk : Prop := lawS3375BDigitsRow.holds Ybaf.pinned (OpenSpec.ofChange lawS3375BDigitsSpec)

/-- ITS FALSE NEIGHBOUR: 'it returns false'. Refute it at one input. -/
def lawS3375BDigitsWrong : ChangeSpec := { name := "lawS3375BDigits", fn := fun _ => fun
  | [d1, d2, d3] => { results := [.lit (.bool false)], args := [d1, d2, d3] }
  | _ => none }
def LawS3375BDigitsWrongFormAsk : Prop := lawS3375BDigitsRow.holds Ybaf.pinned (OpenSpec.ofChange lawS3375BDigitsWrong)

/-- 'wallstep.LawS3375BRoundTrip': WHATEVER THE INPUT: true; the input reads as it did. -/
def lawS3375BRoundTripSpec : ChangeSpec := { name := "lawS3375BRoundTrip", fn := fun _ => fun
  | [d] => { results := [.lit (.bool true)], args := [d] }
  | _ => none }
def lawS3375BRoundTripRow : OpenClaim := { program := "ybulkbqwifmt", sum := "5b1467798c7a5808fb85c687b5457b457e46c317bf3bc9e577fc330207b542f9", func := "example.com/wallstep/wallstep.LawS3375BRoundTrip", spec := "lawS3375BRoundTrip", stops := ["fmt.errorf"], inPlace := ["fmt.errorf"], named := ["internal/strconv.uint64pow10", "math/bits.deBruijn32tab", "math/bits.deBruijn64tab", "encoding/binary.LittleEndian"], apart := false, laid := [("math/bits.deBruijn32tab", laid_math_bits_deBruijn32tab), ("math/bits.deBruijn64tab", laid_math_bits_deBruijn64tab), ("internal/strconv.uint64pow10", laid_internal_strconv_uint64pow10)] }
/-- NO THEOREM (fmt's text is open here; it may be false): for the released tool's asking of the row's closed facts alone. THE STATEMENT IS 'LawS3375BRoundTripToldSaid' (YbulkbqwiFmtCards.lean). -/
def LawS3375BRoundTripFormAsk : Prop := lawS3375BRoundTripRow.holds Ybaf.pinned (OpenSpec.ofChange lawS3375BRoundTripSpec)

/-- ITS FALSE NEIGHBOUR: 'it returns false'. Refute it at one input. -/
def lawS3375BRoundTripWrong : ChangeSpec := { name := "lawS3375BRoundTrip", fn := fun _ => fun
  | [d] => { results := [.lit (.bool false)], args := [d] }
  | _ => none }
def LawS3375BRoundTripWrongFormAsk : Prop := lawS3375BRoundTripRow.holds Ybaf.pinned (OpenSpec.ofChange lawS3375BRoundTripWrong)

/-- 'wallstep.LawS3375CModel': WHATEVER THE INPUT: true; the input reads as it did. -/
def lawS3375CModelSpec : ChangeSpec := { name := "lawS3375CModel", fn := fun _ => fun
  | [d1, d2] => { results := [.lit (.bool true)], args := [d1, d2] }
  | _ => none }
def lawS3375CModelRow : OpenClaim := { program := "ybulkbqwifmt", sum := "5b1467798c7a5808fb85c687b5457b457e46c317bf3bc9e577fc330207b542f9", func := "example.com/wallstep/wallstep.LawS3375CModel", spec := "lawS3375CModel", stops := ["fmt.errorf"], inPlace := ["fmt.errorf"], named := ["encoding/binary.LittleEndian"], apart := false }
/-- NO THEOREM (fmt's text is open here; it may be false): for the released tool's asking of the row's closed facts alone. THE STATEMENT IS 'LawS3375CModelToldSaid' (YbulkbqwiFmtCards.lean). -/
def LawS3375CModelFormAsk : Prop := lawS3375CModelRow.holds Ybaf.pinned (OpenSpec.ofChange lawS3375CModelSpec)

/-- ITS FALSE NEIGHBOUR: 'it returns false'. Refute it at one input. -/
def lawS3375CModelWrong : ChangeSpec := { name := "lawS3375CModel", fn := fun _ => fun
  | [d1, d2] => { results := [.lit (.bool false)], args := [d1, d2] }
  | _ => none }
def LawS3375CModelWrongFormAsk : Prop := lawS3375CModelRow.holds Ybaf.pinned (OpenSpec.ofChange lawS3375CModelWrong)

/-- 'wallstep.LawS3375CDigits': WHATEVER THE INPUT: true; the input reads as it did. -/
def lawS3375CDigitsSpec : ChangeSpec := { name := "lawS3375CDigits", fn := fun _ => fun
  | [d1, d2] => { results := [.lit (.bool true)], args := [d1, d2] }
  | _ => none }
def lawS3375CDigitsRow : OpenClaim := { program := "ybulkbqwifmt", sum := "5b1467798c7a5808fb85c687b5457b457e46c317bf3bc9e577fc330207b542f9", func := "example.com/wallstep/wallstep.LawS3375CDigits", spec := "lawS3375CDigits", stops := ["fmt.errorf"], inPlace := ["fmt.errorf"], named := ["encoding/binary.LittleEndian"], apart := false }
/-- NO THEOREM (fmt's text is open here; it may be false): for the released tool's asking of the row's closed facts alone. THE STATEMENT IS 'LawS3375CDigitsToldSaid' (YbulkbqwiFmtCards.lean). -/
def LawS3375CDigitsFormAsk : Prop := lawS3375CDigitsRow.holds Ybaf.pinned (OpenSpec.ofChange lawS3375CDigitsSpec)

/-- ITS FALSE NEIGHBOUR: 'it returns false'. Refute it at one input. -/
def lawS3375CDigitsWrong : ChangeSpec := { name := "lawS3375CDigits", fn := fun _ => fun
  | [d1, d2] => { results := [.lit (.bool false)], args := [d1, d2] }
  | _ => none }
def LawS3375CDigitsWrongFormAsk : Prop := lawS3375CDigitsRow.holds Ybaf.pinned (OpenSpec.ofChange lawS3375CDigitsWrong)

/-- 'wallstep.LawS3375CRoundTrip': WHATEVER THE INPUT: true; the input reads as it did. -/
def lawS3375CRoundTripSpec : ChangeSpec := { name := "lawS3375CRoundTrip", fn := fun _ => fun
  | [d1, d2] => { results := [.lit (.bool true)], args := [d1, d2] }
  | _ => none }
def lawS3375CRoundTripRow : OpenClaim := { program := "ybulkbqwifmt", sum := "5b1467798c7a5808fb85c687b5457b457e46c317bf3bc9e577fc330207b542f9", func := "example.com/wallstep/wallstep.LawS3375CRoundTrip", spec := "lawS3375CRoundTrip", stops := ["fmt.errorf"], inPlace := ["fmt.errorf"], named := ["internal/strconv.uint64pow10", "math/bits.deBruijn32tab", "math/bits.deBruijn64tab", "encoding/binary.LittleEndian"], apart := false, laid := [("math/bits.deBruijn32tab", laid_math_bits_deBruijn32tab), ("math/bits.deBruijn64tab", laid_math_bits_deBruijn64tab), ("internal/strconv.uint64pow10", laid_internal_strconv_uint64pow10)] }
/-- NO THEOREM (fmt's text is open here; it may be false): for the released tool's asking of the row's closed facts alone. THE STATEMENT IS 'LawS3375CRoundTripToldSaid' (YbulkbqwiFmtCards.lean). -/
def LawS3375CRoundTripFormAsk : Prop := lawS3375CRoundTripRow.holds Ybaf.pinned (OpenSpec.ofChange lawS3375CRoundTripSpec)

/-- ITS FALSE NEIGHBOUR: 'it returns false'. Refute it at one input. -/
def lawS3375CRoundTripWrong : ChangeSpec := { name := "lawS3375CRoundTrip", fn := fun _ => fun
  | [d1, d2] => { results := [.lit (.bool false)], args := [d1, d2] }
  | _ => none }
def LawS3375CRoundTripWrongFormAsk : Prop := lawS3375CRoundTripRow.holds Ybaf.pinned (OpenSpec.ofChange lawS3375CRoundTripWrong)

end Rows
end Go.Proofs.YbulkbqwiFmt
