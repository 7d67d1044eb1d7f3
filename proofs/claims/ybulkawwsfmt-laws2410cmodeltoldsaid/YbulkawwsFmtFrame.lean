/-
  THE FRAME's closed facts, shared by this seat's three cards.
-/
import Derived.Test.YbulkawwsFmtRows
import Derived.Test.YbulkawwsFmtTie
import Derived.Test.YbulkawwsFmtCards
import Derived.WalkKit
import Derived.ProofKit
import Derived.Lay
import Derived.ChangeVars
import Derived.RowKitTokens
import Derived.SizedLaws
import Derived.Stop.JoinedAt
import Derived.Stop.JoinedTold
import Derived.Stop.Texts
import Derived.Stop.LaidErr
import Derived.WalkSmall
import Derived.SevenTiedAt
namespace Go.Proofs.YbulkawwsFmt
open Go.ChangeShapes Go.WideShapes Go.ChangeAt Go.RowKit Go.Kit
open Go.Extern.Stop Go.Stop Go.Extern

theorem own : ownKnob Ybaf.prog.godebug = none := by kernel_rfl
theorem laidOut : laidOutB Ybaf.pinned.checked.prog = true := by kernel_rfl
theorem stops : Ybaf.pinned.checked.prog.stops = Rows.lawS2410CRoundTripRow.stops := by kernel_rfl
theorem stopKnobs : Ybaf.pinned.checked.prog.stopKnobs = [] := by kernel_rfl
theorem quiet (os : Os) : Stop.quiet Ybaf.pinned.checked.prog os := by
  intro k hk
  rw [stopKnobs] at hk
  cases hk
/-- The variable's name, off the given specification. -/
abbrev gEname : String := Rows.lawS2410CRoundTripSpec.vars.headD default
theorem gE : Ybaf.prog.globalNamed gEname = some 0 := by kernel_rfl
theorem gEType : (Ybaf.prog.globals[0]?).map (·.type) = some 30 := by kernel_rfl
theorem cells56 : Ybaf.prog.cellsOf 56 = 1 := by kernel_rfl
theorem cells9 : Ybaf.prog.cellsOf 9 = 1 := by kernel_rfl
/-- The name of the type that an interface value holds. -/
def typeOfIface : DataW Unit → String
  | .iface n _ => n
  | _ => default
/-- The name of a pointer to the library's own error type, off the given datum. -/
abbrev sentName : String := typeOfIface Rows.laid_example_com_vouchsafe_vouchsafe_errTruncated
theorem row54 (u : TypeId) (h : Ybaf.prog.typeName? 3 u = some sentName) : u = 54 :=
  typeName_ptr_named (nm := "errors.errorString") (by kernel_rfl) (by kernel_rfl) (by decide) u (h.trans (congrArg some (by decide)))

/-- What this seat's rows list: the one sentinel. -/
theorem laid_met (os : Os) (args : Array Value) : laidMetH Ybaf.prog [(gEname, Rows.laid_example_com_vouchsafe_vouchsafe_errTruncated)] ((World.laidAll Ybaf.prog os [(gEname, Rows.laid_example_com_vouchsafe_vouchsafe_errTruncated)]).forCall (fun _ _ => 0) ⟨#[], args, []⟩).memory :=
  laidMet_laidAll _ (by kernel_rfl) (by kernel_rfl)
end Go.Proofs.YbulkawwsFmt
