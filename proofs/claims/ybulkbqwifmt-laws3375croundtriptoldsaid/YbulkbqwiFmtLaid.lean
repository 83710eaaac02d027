/-
  DERIVED. THE LISTED VARIABLES: a start in which they hold what the rows list; what the condition gives the walks.
-/
import Derived.Test.YbulkbqwiFmtLift
import Derived.Test.YbulkbqwiFmtRound
import Derived.Lib.LaidTab
import Derived.LaidLaws
import Derived.Stop.LaidErr
namespace Go.Proofs.YbulkbqwiFmt
open Go.ChangeShapes Go.WideShapes Go.ChangeAt Go.RowKit Go.Kit
open Go.Extern.Stop Go.Stop Go.Extern

/-- the cells of a table. -/
def cellsOfD : DataW Unit → Array Value
  | .agg xs => (xs.map fun | .lit (.int k z) => Value.int k z | _ => .nilIface).toArray
  | _ => #[]
def putAt (h : Array Obj) (g : Nat) (cs : Array Value) : Array Obj := h.modify g fun
  | .cells _ t frozen => .cells cs t frozen
  | o => o
/-- a start in which the three tables hold what the text lays. -/
def laidWorldOf (P : Program) (os : Os) : World :=
  { World.holding P os ⟨#[], #[], []⟩ with heap := putAt (putAt (putAt (World.holding P os ⟨#[], #[], []⟩).heap 0 (cellsOfD Rows.laid_internal_strconv_uint64pow10)) 1 (cellsOfD Rows.laid_math_bits_deBruijn32tab)) 2 (cellsOfD Rows.laid_math_bits_deBruijn64tab) }

set_option maxRecDepth 1000000 in
theorem laid_met (os : Os) (args : Array Value) : laidMet Ybaf.prog Rows.lawS3375BRoundTripRow.laid ((laidWorldOf Ybaf.prog os).forCall (fun _ _ => 0) ⟨#[], args, []⟩).memory :=
  laidMet_of_run' 10 (by kernel_rfl) (by kernel_rfl)

theorem pow_data : Rows.laid_internal_strconv_uint64pow10 (H := Unit) = Lib.tabData .u64 Lib.pow10Tab := by rfl
theorem tab_of {W : World} (h : laidMetH Ybaf.prog Rows.lawS3375BRoundTripRow.laid W) : Lib.TabIs Ybaf.prog W Ybaf.nmPow .u64 Lib.pow10Tab := by
  have h1 : laidMet Ybaf.prog Rows.lawS3375BRoundTripRow.laid W := h
  have h2 : laidMet Ybaf.prog [(Ybaf.nmPow, Rows.laid_internal_strconv_uint64pow10)] W := h1.tail.tail
  rw [pow_data] at h2
  exact Lib.tabIs_of_head (g := 0) (t := 57) (e := 25) (n := 20) (by kernel_rfl) (by kernel_rfl) (by kernel_rfl) Ybaf.underlying25 (by kernel_rfl) (by kernel_rfl) h2
end Go.Proofs.YbulkbqwiFmt
