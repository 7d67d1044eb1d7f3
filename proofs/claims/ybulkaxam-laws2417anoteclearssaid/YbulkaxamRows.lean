/-
  No cell of these rows narrows 'for every input' (looked for: loops, veiled, ifaces, maps, wideKeys, modest, calm, conditions, laid).
  DERIVED. THE GIVEN ROWS OF THIS SEAT. 1 by the template 'for every input the law returns true; each argument reads behind the call as it read before'; 0 by the template 'total and deterministic' (their statements: YbulkaxamTotals.lean).
  GIVEN WITH THE SEED: the statements are not yours to turn. If you find one false, say at which input.
  Laid BY PROGRAM, IN A SANDBOX (cutbox-rows.mjs): the forced cells as the released guide's own fill.sh prints them over the translation dff729774da309a2… (all of the seat's roots in one cut). By AI agents, Wed Nov 11 2026. No macro, syntax, notation, axiom, sorry.
-/
import Derived.Test.YbulkaxamChecked
import GoSem.Claim
import GoSem.ClaimJoined
import GoSem.ClaimMapViews
import Derived.JoinedTies
import Derived.KernelRfl
namespace Go.Proofs.Ybulkaxam
/- THE CELL 'sum', in the pinned program and in every row, IS THE sha256 OF THE DUMP (.gsa) THAT YbulkaxamProg.lean LOADS. Nothing in Lean hashes anything: it is a label: what it is worth is what the hold of that sum in a sandbox is worth. -/
noncomputable def Yba.pinned : Pinned := { name := "ybulkaxam", sum := "dff729774da309a2ca614c13e551a5af409df15dd8ac8ad4d9cb81b081e23c77", checked := Yba.checked }
namespace Rows
def none {H : Type} : Left H := { results := [], args := [] }

/-- 'collector.LawS2417ANoteClears': WHATEVER THE INPUT: true; the input reads as it did. -/
def lawS2417ANoteClearsSpec : ChangeSpec := { name := "lawS2417ANoteClears", fn := fun _ => fun
  | [d1, d2, d3, d4] => { results := [.lit (.bool true)], args := [d1, d2, d3, d4] }
  | _ => none }
def lawS2417ANoteClearsRow : OpenClaim := { program := "ybulkaxam", sum := "dff729774da309a2ca614c13e551a5af409df15dd8ac8ad4d9cb81b081e23c77", func := "example.com/ownerline/ownerline/internal/collector.LawS2417ANoteClears", spec := "lawS2417ANoteClears", plainKeys := false, apart := false }
def LawS2417ANoteClearsSaid : Prop := lawS2417ANoteClearsRow.holds Yba.pinned (OpenSpec.ofChange lawS2417ANoteClearsSpec)

/-- ITS FALSE NEIGHBOUR: 'it returns false'. Refute it at one input. -/
def lawS2417ANoteClearsWrong : ChangeSpec := { name := "lawS2417ANoteClears", fn := fun _ => fun
  | [d1, d2, d3, d4] => { results := [.lit (.bool false)], args := [d1, d2, d3, d4] }
  | _ => none }
def LawS2417ANoteClearsWrongFalsely : Prop := lawS2417ANoteClearsRow.holds Yba.pinned (OpenSpec.ofChange lawS2417ANoteClearsWrong)

end Rows
end Go.Proofs.Ybulkaxam
