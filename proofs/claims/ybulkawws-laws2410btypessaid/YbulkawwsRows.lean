/-
  No cell of these rows narrows 'for every input' (looked for: loops, veiled, ifaces, maps, wideKeys, modest, calm, conditions, laid).
  DERIVED. THE GIVEN ROWS OF THIS SEAT. 1 by the template 'for every input the law returns true; each argument reads behind the call as it read before'; 0 by the template 'total and deterministic' (their statements: YbulkawwsTotals.lean).
  GIVEN WITH THE SEED: the statements are not yours to turn. If you find one false, say at which input.
  Laid BY PROGRAM, IN A SANDBOX (cutbox-rows.mjs): the forced cells as the released guide's own fill.sh prints them over the translation 2ae67df0fc70f268… (all of the seat's roots in one cut). By AI agents, Wed Nov 11 2026. No macro, syntax, notation, axiom, sorry.
-/
import Derived.Test.YbulkawwsChecked
import GoSem.Claim
import GoSem.ClaimJoined
import GoSem.ClaimMapViews
import Derived.JoinedTies
import Derived.KernelRfl
namespace Go.Proofs.Ybulkawws
/- THE CELL 'sum', in the pinned program and in every row, IS THE sha256 OF THE DUMP (.gsa) THAT YbulkawwsProg.lean LOADS. Nothing in Lean hashes anything: it is a label: what it is worth is what the hold of that sum in a sandbox is worth. -/
noncomputable def Yba.pinned : Pinned := { name := "ybulkawws", sum := "2ae67df0fc70f268d6f0a432f2842202109d577c394ffaba43853a88a4f13e26", checked := Yba.checked }
namespace Rows
def none {H : Type} : Left H := { results := [], args := [] }

/-- 'vouchsafe.LawS2410BTypes': WHATEVER THE INPUT: true; the input reads as it did. -/
def lawS2410BTypesSpec : ChangeSpec := { name := "lawS2410BTypes", fn := fun _ => fun
  | [d] => { results := [.lit (.bool true)], args := [d] }
  | _ => none }
def lawS2410BTypesRow : OpenClaim := { program := "ybulkawws", sum := "2ae67df0fc70f268d6f0a432f2842202109d577c394ffaba43853a88a4f13e26", func := "example.com/vouchsafe/vouchsafe.LawS2410BTypes", spec := "lawS2410BTypes", apart := false }
def LawS2410BTypesSaid : Prop := lawS2410BTypesRow.holds Yba.pinned (OpenSpec.ofChange lawS2410BTypesSpec)

/-- ITS FALSE NEIGHBOUR: 'it returns false'. Refute it at one input. -/
def lawS2410BTypesWrong : ChangeSpec := { name := "lawS2410BTypes", fn := fun _ => fun
  | [d] => { results := [.lit (.bool false)], args := [d] }
  | _ => none }
def LawS2410BTypesWrongFalsely : Prop := lawS2410BTypesRow.holds Yba.pinned (OpenSpec.ofChange lawS2410BTypesWrong)

end Rows
end Go.Proofs.Ybulkawws
