/-
  DERIVED. GIVEN WITH THE SEED: THE CARDS: each row of YbulkawwsFmtRows.lean that lists a variable, with what it lists TIED to the program's text (the seventh form; the later family's looks); each row that meets fmt, with fmt's text TOLD by the authors' own Lean function (tested against real Go, not proved from fmt's source: count such statements apart). THE CARD IS WHAT COUNTS. Prove the row's statement (the work); the ties are given (YbulkawwsFmtTie.lean); close each card by the builder's one call (the guide's Derived/Test/ToyasCard.lean, 'card_holds'). Laid BY PROGRAM, IN A SANDBOX (cutbox-door.mjs). By AI agents, Wed Nov 11 2026. No macro, syntax, notation, axiom, sorry.
-/
import Derived.Test.YbulkawwsFmtRows
import GoSem.ClaimSeven
namespace Go.Proofs.YbulkawwsFmt
namespace Rows

/-- THE TOLD AND TIED CARD OF 'vouchsafe.LawS2410BSplit'. -/
def lawS2410BSplitCard : Claim7 := { stood := { row := lawS2410BSplitRow, standIns := [], harness := (true, "ed706f2ce6d019aea870ec90cfd9d0fec0001c786a5bba3954b1501c01e6ee1e"), looks := false }, told := true, laidByText := true, laidKinds := [.called], laidTests := true, laidLooks := .later, goes := false }
def LawS2410BSplitToldSaid : Prop := Claim7.holds Ybaf.pinned (.plain (OpenSpec.ofChange lawS2410BSplitSpec)) lawS2410BSplitCard
/-- ITS FALSE NEIGHBOUR. Refute it at one input. -/
def LawS2410BSplitToldWrongFalsely : Prop := Claim7.holds Ybaf.pinned (.plain (OpenSpec.ofChange lawS2410BSplitWrong)) lawS2410BSplitCard

/-- THE TOLD AND TIED CARD OF 'vouchsafe.LawS2410CModel'. -/
def lawS2410CModelCard : Claim7 := { stood := { row := lawS2410CModelRow, standIns := [], harness := (true, "ed706f2ce6d019aea870ec90cfd9d0fec0001c786a5bba3954b1501c01e6ee1e"), looks := false }, told := true, laidByText := true, laidKinds := [.called], laidTests := true, laidLooks := .later, goes := false }
def LawS2410CModelToldSaid : Prop := Claim7.holds Ybaf.pinned (.plain (OpenSpec.ofChange lawS2410CModelSpec)) lawS2410CModelCard
/-- ITS FALSE NEIGHBOUR. Refute it at one input. -/
def LawS2410CModelToldWrongFalsely : Prop := Claim7.holds Ybaf.pinned (.plain (OpenSpec.ofChange lawS2410CModelWrong)) lawS2410CModelCard

/-- THE TOLD AND TIED CARD OF 'vouchsafe.LawS2410CRoundTrip'. -/
def lawS2410CRoundTripCard : Claim7 := { stood := { row := lawS2410CRoundTripRow, standIns := [], harness := (true, "ed706f2ce6d019aea870ec90cfd9d0fec0001c786a5bba3954b1501c01e6ee1e"), looks := false }, told := true, laidByText := true, laidKinds := [.called], laidTests := true, laidLooks := .later, goes := false }
def LawS2410CRoundTripToldSaid : Prop := Claim7.holds Ybaf.pinned (.plain (OpenSpec.ofChange lawS2410CRoundTripSpec)) lawS2410CRoundTripCard
/-- ITS FALSE NEIGHBOUR. Refute it at one input. -/
def LawS2410CRoundTripToldWrongFalsely : Prop := Claim7.holds Ybaf.pinned (.plain (OpenSpec.ofChange lawS2410CRoundTripWrong)) lawS2410CRoundTripCard
end Rows
end Go.Proofs.YbulkawwsFmt
