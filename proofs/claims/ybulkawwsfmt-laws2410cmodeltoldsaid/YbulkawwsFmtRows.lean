/-
  NARROWER THAN 'FOR EVERY INPUT', by the rows' own cells (each row's printed sentence says how): LawS2410BSplit: ifaces, laid · LawS2410CModel: ifaces, laid · LawS2410CRoundTrip: ifaces, laid.
  DERIVED. THE GIVEN ROWS OF THIS SEAT. 3 by the template 'for every input the law returns true; each argument reads behind the call as it read before'; 0 by the template 'total and deterministic' (their statements: YbulkawwsFmtTotals.lean).
  GIVEN WITH THE SEED: the statements are not yours to turn. If you find one false, say at which input.
  Laid BY PROGRAM, IN A SANDBOX (cutbox-rows.mjs): the forced cells as the released guide's own fill.sh prints them over the translation 11c52378d664adf5… (all of the seat's roots in one cut). By AI agents, Wed Nov 11 2026. No macro, syntax, notation, axiom, sorry.
-/
import Derived.Test.YbulkawwsFmtChecked
import GoSem.Claim
import GoSem.ClaimJoined
import GoSem.ClaimMapViews
import Derived.JoinedTies
import Derived.KernelRfl
namespace Go.Proofs.YbulkawwsFmt
/- THE CELL 'sum', in the pinned program and in every row, IS THE sha256 OF THE DUMP (.gsa) THAT YbulkawwsFmtProg.lean LOADS. Nothing in Lean hashes anything: it is a label: what it is worth is what the hold of that sum in a sandbox is worth. -/
noncomputable def Ybaf.pinned : Pinned := { name := "ybulkawwsfmt", sum := "11c52378d664adf55bbe9ed72fdf38d5934e6388a14b2810d06f04a37583aee4", checked := Ybaf.checked }
namespace Rows
def none {H : Type} : Left H := { results := [], args := [] }

/- WHAT THE LISTED PACKAGE-LEVEL VARIABLES READ AS WHEN THE CALL BEGINS. Each datum BY PROGRAM (the guide's laid-datum.mjs) off the statement by which the dump's own 'gosem.cut.vars' lays the variable. In a bare row this is a premise. The card (YbulkawwsFmtCards.lean) ties it to the program's text. -/
def laid_example_com_vouchsafe_vouchsafe_errTruncated {H : Type} : DataW H := .iface "*errors.errorString" (.ptr (.agg [.lit (.string [116, 114, 117, 110, 99, 97, 116, 101, 100])]))

/-- 'vouchsafe.LawS2410BSplit': WHATEVER THE INPUT: true; the input reads as it did. -/
def lawS2410BSplitSpec : ChangeSpec := { name := "lawS2410BSplit", vars := ["example.com/vouchsafe/vouchsafe.errTruncated"], fn := fun _ => fun
  | [d1, d2, g1] => { results := [.lit (.bool true)], args := [d1, d2], vars := [g1] }
  | _ => none }
def lawS2410BSplitRow : OpenClaim := { program := "ybulkawwsfmt", sum := "11c52378d664adf55bbe9ed72fdf38d5934e6388a14b2810d06f04a37583aee4", func := "example.com/vouchsafe/vouchsafe.LawS2410BSplit", spec := "lawS2410BSplit", stops := ["fmt.errorf, its operands' methods called", "fmt.Sprintf"], inPlace := ["fmt.errorf"], unfollowed := true, recurses := true, named := ["example.com/vouchsafe/vouchsafe.errTruncated"], ifaces := true, apart := false, laid := [("example.com/vouchsafe/vouchsafe.errTruncated", laid_example_com_vouchsafe_vouchsafe_errTruncated)] }
/-- NO THEOREM (fmt's text is open here; it may be false): for the released tool's asking of the row's closed facts alone. THE STATEMENT IS 'LawS2410BSplitToldSaid' (YbulkawwsFmtCards.lean). -/
def LawS2410BSplitFormAsk : Prop := lawS2410BSplitRow.holds Ybaf.pinned (OpenSpec.ofChange lawS2410BSplitSpec)

/-- ITS FALSE NEIGHBOUR: 'it returns false'. Refute it at one input. -/
def lawS2410BSplitWrong : ChangeSpec := { name := "lawS2410BSplit", vars := ["example.com/vouchsafe/vouchsafe.errTruncated"], fn := fun _ => fun
  | [d1, d2, g1] => { results := [.lit (.bool false)], args := [d1, d2], vars := [g1] }
  | _ => none }
def LawS2410BSplitWrongFormAsk : Prop := lawS2410BSplitRow.holds Ybaf.pinned (OpenSpec.ofChange lawS2410BSplitWrong)

/-- 'vouchsafe.LawS2410CModel': WHATEVER THE INPUT: true; the input reads as it did. -/
def lawS2410CModelSpec : ChangeSpec := { name := "lawS2410CModel", vars := ["example.com/vouchsafe/vouchsafe.errTruncated"], fn := fun _ => fun
  | [d, g1] => { results := [.lit (.bool true)], args := [d], vars := [g1] }
  | _ => none }
def lawS2410CModelRow : OpenClaim := { program := "ybulkawwsfmt", sum := "11c52378d664adf55bbe9ed72fdf38d5934e6388a14b2810d06f04a37583aee4", func := "example.com/vouchsafe/vouchsafe.LawS2410CModel", spec := "lawS2410CModel", stops := ["fmt.errorf, its operands' methods called", "fmt.Sprintf"], inPlace := ["fmt.errorf"], unfollowed := true, recurses := true, named := ["example.com/vouchsafe/vouchsafe.errTruncated"], ifaces := true, apart := false, laid := [("example.com/vouchsafe/vouchsafe.errTruncated", laid_example_com_vouchsafe_vouchsafe_errTruncated)] }
/-- NO THEOREM (fmt's text is open here; it may be false): for the released tool's asking of the row's closed facts alone. THE STATEMENT IS 'LawS2410CModelToldSaid' (YbulkawwsFmtCards.lean). -/
def LawS2410CModelFormAsk : Prop := lawS2410CModelRow.holds Ybaf.pinned (OpenSpec.ofChange lawS2410CModelSpec)

/-- ITS FALSE NEIGHBOUR: 'it returns false'. Refute it at one input. -/
def lawS2410CModelWrong : ChangeSpec := { name := "lawS2410CModel", vars := ["example.com/vouchsafe/vouchsafe.errTruncated"], fn := fun _ => fun
  | [d, g1] => { results := [.lit (.bool false)], args := [d], vars := [g1] }
  | _ => none }
def LawS2410CModelWrongFormAsk : Prop := lawS2410CModelRow.holds Ybaf.pinned (OpenSpec.ofChange lawS2410CModelWrong)

/-- 'vouchsafe.LawS2410CRoundTrip': WHATEVER THE INPUT: true; the input reads as it did. -/
def lawS2410CRoundTripSpec : ChangeSpec := { name := "lawS2410CRoundTrip", vars := ["example.com/vouchsafe/vouchsafe.errTruncated"], fn := fun _ => fun
  | [d, g1] => { results := [.lit (.bool true)], args := [d], vars := [g1] }
  | _ => none }
def lawS2410CRoundTripRow : OpenClaim := { program := "ybulkawwsfmt", sum := "11c52378d664adf55bbe9ed72fdf38d5934e6388a14b2810d06f04a37583aee4", func := "example.com/vouchsafe/vouchsafe.LawS2410CRoundTrip", spec := "lawS2410CRoundTrip", stops := ["fmt.errorf, its operands' methods called", "fmt.Sprintf"], inPlace := ["fmt.errorf"], unfollowed := true, recurses := true, named := ["example.com/vouchsafe/vouchsafe.errTruncated"], ifaces := true, apart := false, laid := [("example.com/vouchsafe/vouchsafe.errTruncated", laid_example_com_vouchsafe_vouchsafe_errTruncated)] }
/-- NO THEOREM (fmt's text is open here; it may be false): for the released tool's asking of the row's closed facts alone. THE STATEMENT IS 'LawS2410CRoundTripToldSaid' (YbulkawwsFmtCards.lean). -/
def LawS2410CRoundTripFormAsk : Prop := lawS2410CRoundTripRow.holds Ybaf.pinned (OpenSpec.ofChange lawS2410CRoundTripSpec)

/-- ITS FALSE NEIGHBOUR: 'it returns false'. Refute it at one input. -/
def lawS2410CRoundTripWrong : ChangeSpec := { name := "lawS2410CRoundTrip", vars := ["example.com/vouchsafe/vouchsafe.errTruncated"], fn := fun _ => fun
  | [d, g1] => { results := [.lit (.bool false)], args := [d], vars := [g1] }
  | _ => none }
def LawS2410CRoundTripWrongFormAsk : Prop := lawS2410CRoundTripRow.holds Ybaf.pinned (OpenSpec.ofChange lawS2410CRoundTripWrong)

end Rows
end Go.Proofs.YbulkawwsFmt
