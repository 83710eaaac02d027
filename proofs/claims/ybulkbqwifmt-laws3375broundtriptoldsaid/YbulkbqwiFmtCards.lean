/-
  DERIVED. GIVEN WITH THE SEED: THE CARDS: each row of YbulkbqwiFmtRows.lean that lists a variable, with what it lists TIED to the program's text (the seventh form; the later family's looks); each row that meets fmt, with fmt's text TOLD by the authors' own Lean function (tested against real Go, not proved from fmt's source: count such statements apart). THE CARD IS WHAT COUNTS. Prove the row's statement (the work); the ties are given (YbulkbqwiFmtTie.lean); close each card by the builder's one call (the guide's Derived/Test/ToyasCard.lean, 'card_holds'). Laid BY PROGRAM, IN A SANDBOX (cutbox-door.mjs). By AI agents, Wed Nov 11 2026. No macro, syntax, notation, axiom, sorry.
-/
import Derived.Test.YbulkbqwiFmtRows
import GoSem.ClaimSeven
namespace Go.Proofs.YbulkbqwiFmt
namespace Rows

/-- THE TOLD CARD OF 'wallstep.LawS3375BModel'. -/
def lawS3375BModelCard : Claim7 := { stood := { row := lawS3375BModelRow, standIns := [], harness := (true, "c8972844b77820c731f6383b54f3ec2009186bef03093d3db3dbf977871ef59f"), looks := false }, told := true, goes := false }
def LawS3375BModelToldSaid : Prop := Claim7.holds Ybaf.pinned (.plain (OpenSpec.ofChange lawS3375BModelSpec)) lawS3375BModelCard
/-- ITS FALSE NEIGHBOUR. Refute it at one input. -/
def LawS3375BModelToldWrongFalsely : Prop := Claim7.holds Ybaf.pinned (.plain (OpenSpec.ofChange lawS3375BModelWrong)) lawS3375BModelCard

/-- THE TOLD CARD OF 'wallstep.LawS3375BDigits'. -/
def lawS3375BDigitsCard : Claim7 := { stood := { row := lawS3375BDigitsRow, standIns := [], harness := (true, "c8972844b77820c731f6383b54f3ec2009186bef03093d3db3dbf977871ef59f"), looks := false }, told := true, goes := false }
def LawS3375BDigitsToldSaid : Prop := Claim7.holds Ybaf.pinned (.plain (OpenSpec.ofChange lawS3375BDigitsSpec)) lawS3375BDigitsCard
/-- ITS FALSE NEIGHBOUR. Refute it at one input. -/
def LawS3375BDigitsToldWrongFalsely : Prop := Claim7.holds Ybaf.pinned (.plain (OpenSpec.ofChange lawS3375BDigitsWrong)) lawS3375BDigitsCard

/-- THE TOLD AND TIED CARD OF 'wallstep.LawS3375BRoundTrip'. -/
def lawS3375BRoundTripCard : Claim7 := { stood := { row := lawS3375BRoundTripRow, standIns := [], harness := (true, "c8972844b77820c731f6383b54f3ec2009186bef03093d3db3dbf977871ef59f"), looks := false }, told := true, laidByText := true, laidKinds := [.data, .data, .data], laidTests := true, laidLooks := .later, goes := false }
def LawS3375BRoundTripToldSaid : Prop := Claim7.holds Ybaf.pinned (.plain (OpenSpec.ofChange lawS3375BRoundTripSpec)) lawS3375BRoundTripCard
/-- ITS FALSE NEIGHBOUR. Refute it at one input. -/
def LawS3375BRoundTripToldWrongFalsely : Prop := Claim7.holds Ybaf.pinned (.plain (OpenSpec.ofChange lawS3375BRoundTripWrong)) lawS3375BRoundTripCard

/-- THE TOLD CARD OF 'wallstep.LawS3375CModel'. -/
def lawS3375CModelCard : Claim7 := { stood := { row := lawS3375CModelRow, standIns := [], harness := (true, "c8972844b77820c731f6383b54f3ec2009186bef03093d3db3dbf977871ef59f"), looks := false }, told := true, goes := false }
def LawS3375CModelToldSaid : Prop := Claim7.holds Ybaf.pinned (.plain (OpenSpec.ofChange lawS3375CModelSpec)) lawS3375CModelCard
/-- ITS FALSE NEIGHBOUR. Refute it at one input. -/
def LawS3375CModelToldWrongFalsely : Prop := Claim7.holds Ybaf.pinned (.plain (OpenSpec.ofChange lawS3375CModelWrong)) lawS3375CModelCard

/-- THE TOLD CARD OF 'wallstep.LawS3375CDigits'. -/
def lawS3375CDigitsCard : Claim7 := { stood := { row := lawS3375CDigitsRow, standIns := [], harness := (true, "c8972844b77820c731f6383b54f3ec2009186bef03093d3db3dbf977871ef59f"), looks := false }, told := true, goes := false }
def LawS3375CDigitsToldSaid : Prop := Claim7.holds Ybaf.pinned (.plain (OpenSpec.ofChange lawS3375CDigitsSpec)) lawS3375CDigitsCard
/-- ITS FALSE NEIGHBOUR. Refute it at one input. -/
def LawS3375CDigitsToldWrongFalsely : Prop := Claim7.holds Ybaf.pinned (.plain (OpenSpec.ofChange lawS3375CDigitsWrong)) lawS3375CDigitsCard

/-- THE TOLD AND TIED CARD OF 'wallstep.LawS3375CRoundTrip'. -/
def lawS3375CRoundTripCard : Claim7 := { stood := { row := lawS3375CRoundTripRow, standIns := [], harness := (true, "c8972844b77820c731f6383b54f3ec2009186bef03093d3db3dbf977871ef59f"), looks := false }, told := true, laidByText := true, laidKinds := [.data, .data, .data], laidTests := true, laidLooks := .later, goes := false }
def LawS3375CRoundTripToldSaid : Prop := Claim7.holds Ybaf.pinned (.plain (OpenSpec.ofChange lawS3375CRoundTripSpec)) lawS3375CRoundTripCard
/-- ITS FALSE NEIGHBOUR. Refute it at one input. -/
def LawS3375CRoundTripToldWrongFalsely : Prop := Claim7.holds Ybaf.pinned (.plain (OpenSpec.ofChange lawS3375CRoundTripWrong)) lawS3375CRoundTripCard
end Rows
end Go.Proofs.YbulkbqwiFmt
