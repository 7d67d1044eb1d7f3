/-
  DERIVED. GIVEN WITH THE SEED: THE CARDS: each row of YbulkawxgDoorRows.lean that lists a variable, with what it lists TIED to the program's text (the seventh form; the later family's looks); each row that meets fmt, with fmt's text TOLD by the authors' own Lean function (tested against real Go, not proved from fmt's source: count such statements apart). THE CARD IS WHAT COUNTS. Prove the row's statement (the work); the ties are given (YbulkawxgDoorTie.lean); close each card by the builder's one call (the guide's Derived/Test/ToyasCard.lean, 'card_holds'). Laid BY PROGRAM, IN A SANDBOX (cutbox-door.mjs). By AI agents, Wed Nov 11 2026. No macro, syntax, notation, axiom, sorry.
-/
import Derived.Test.YbulkawxgDoorRows
import GoSem.ClaimSeven
namespace Go.Proofs.YbulkawxgDoor
namespace Rows

/-- THE TIED CARD OF 'cert.LawS2411AModel'. -/
def lawS2411AModelCard : Claim7 := { stood := { row := lawS2411AModelRow, standIns := [], harness := (true, "1f3753851ba66050dd2a951f42725288e57a02e7a3ace848e5923a2a2120870a"), looks := false }, kinds := [], alts := [], laidByText := true, laidKinds := [.data, .data, .data, .pinned, .pinned], laidTests := true, laidLooks := .later }
def LawS2411AModelCardSaid : Prop := Claim7.holds Ybad.pinned (.plain (OpenSpec.ofChange lawS2411AModelSpec)) lawS2411AModelCard

/-- THE TIED CARD OF 'cert.LawS2411ABuilt'. -/
def lawS2411ABuiltCard : Claim7 := { stood := { row := lawS2411ABuiltRow, standIns := [], harness := (true, "1f3753851ba66050dd2a951f42725288e57a02e7a3ace848e5923a2a2120870a"), looks := false }, kinds := [], alts := [], laidByText := true, laidKinds := [.data, .data, .data, .pinned, .pinned], laidTests := true, laidLooks := .later }
def LawS2411ABuiltCardSaid : Prop := Claim7.holds Ybad.pinned (.plain (OpenSpec.ofChange lawS2411ABuiltSpec)) lawS2411ABuiltCard

/-- THE TIED CARD OF 'der.LawS2411CExact'. -/
def lawS2411CExactCard : Claim7 := { stood := { row := lawS2411CExactRow, standIns := [], harness := (true, "1f3753851ba66050dd2a951f42725288e57a02e7a3ace848e5923a2a2120870a"), looks := false }, kinds := [], alts := [], laidByText := true, laidKinds := [.data], laidTests := true, laidLooks := .later }
def LawS2411CExactCardSaid : Prop := Claim7.holds Ybad.pinned (.plain (OpenSpec.ofChange lawS2411CExactSpec)) lawS2411CExactCard
end Rows
end Go.Proofs.YbulkawxgDoor
