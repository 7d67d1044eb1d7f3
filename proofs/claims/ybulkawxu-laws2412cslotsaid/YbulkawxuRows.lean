/-
  No cell of these rows narrows 'for every input' (looked for: loops, veiled, ifaces, maps, wideKeys, modest, calm, conditions, laid).
  DERIVED. THE GIVEN ROWS OF THIS SEAT. 2 by the template 'for every input the law returns true; each argument reads behind the call as it read before'; 0 by the template 'total and deterministic' (their statements: YbulkawxuTotals.lean).
  GIVEN WITH THE SEED: the statements are not yours to turn. If you find one false, say at which input.
  Laid BY PROGRAM, IN A SANDBOX (cutbox-rows.mjs): the forced cells as the released guide's own fill.sh prints them over the translation e1204dd40a2e47fd… (all of the seat's roots in one cut). By AI agents, Wed Nov 11 2026. No macro, syntax, notation, axiom, sorry.
-/
import Derived.Test.YbulkawxuChecked
import GoSem.Claim
import GoSem.ClaimJoined
import GoSem.ClaimMapViews
import Derived.JoinedTies
import Derived.KernelRfl
namespace Go.Proofs.Ybulkawxu
/- THE CELL 'sum', in the pinned program and in every row, IS THE sha256 OF THE DUMP (.gsa) THAT YbulkawxuProg.lean LOADS. Nothing in Lean hashes anything: it is a label: what it is worth is what the hold of that sum in a sandbox is worth. -/
noncomputable def Yba.pinned : Pinned := { name := "ybulkawxu", sum := "e1204dd40a2e47fdea7e16aa225fa67f5bb7d174a84e3f9f5f02ba7edabf6c05", checked := Yba.checked }
namespace Rows
def none {H : Type} : Left H := { results := [], args := [] }

/-- 'eval.LawS2412CGlobal': WHATEVER THE INPUT: true; the input reads as it did. -/
def lawS2412CGlobalSpec : ChangeSpec := { name := "lawS2412CGlobal", fn := fun _ => fun
  | [d1, d2, d3] => { results := [.lit (.bool true)], args := [d1, d2, d3] }
  | _ => none }
def lawS2412CGlobalRow : OpenClaim := { program := "ybulkawxu", sum := "e1204dd40a2e47fdea7e16aa225fa67f5bb7d174a84e3f9f5f02ba7edabf6c05", func := "example.com/rivulet/rivulet/eval.LawS2412CGlobal", spec := "lawS2412CGlobal", apart := false }
def LawS2412CGlobalSaid : Prop := lawS2412CGlobalRow.holds Yba.pinned (OpenSpec.ofChange lawS2412CGlobalSpec)

/-- ITS FALSE NEIGHBOUR: 'it returns false'. Refute it at one input. -/
def lawS2412CGlobalWrong : ChangeSpec := { name := "lawS2412CGlobal", fn := fun _ => fun
  | [d1, d2, d3] => { results := [.lit (.bool false)], args := [d1, d2, d3] }
  | _ => none }
def LawS2412CGlobalWrongFalsely : Prop := lawS2412CGlobalRow.holds Yba.pinned (OpenSpec.ofChange lawS2412CGlobalWrong)

/-- 'eval.LawS2412CSlot': WHATEVER THE INPUT: true; the input reads as it did. -/
def lawS2412CSlotSpec : ChangeSpec := { name := "lawS2412CSlot", fn := fun _ => fun
  | [d1, d2, d3, d4] => { results := [.lit (.bool true)], args := [d1, d2, d3, d4] }
  | _ => none }
def lawS2412CSlotRow : OpenClaim := { program := "ybulkawxu", sum := "e1204dd40a2e47fdea7e16aa225fa67f5bb7d174a84e3f9f5f02ba7edabf6c05", func := "example.com/rivulet/rivulet/eval.LawS2412CSlot", spec := "lawS2412CSlot", apart := false }
def LawS2412CSlotSaid : Prop := lawS2412CSlotRow.holds Yba.pinned (OpenSpec.ofChange lawS2412CSlotSpec)

/-- ITS FALSE NEIGHBOUR: 'it returns false'. Refute it at one input. -/
def lawS2412CSlotWrong : ChangeSpec := { name := "lawS2412CSlot", fn := fun _ => fun
  | [d1, d2, d3, d4] => { results := [.lit (.bool false)], args := [d1, d2, d3, d4] }
  | _ => none }
def LawS2412CSlotWrongFalsely : Prop := lawS2412CSlotRow.holds Yba.pinned (OpenSpec.ofChange lawS2412CSlotWrong)

end Rows
end Go.Proofs.Ybulkawxu
