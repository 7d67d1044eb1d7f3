/-
  fmt.Errorf at parseSCTList's four formats: an error that is not nil. (What its text is, nothing here asks.)
-/
import Derived.Test.YbulkawwsFmtParse
import Derived.Test.YbulkawwsFmtFrame
import Derived.Stop.CallBack
import Derived.Stop.IfaceNil
import GoSem.ClaimData
namespace Go.Proofs.YbulkawwsFmt
open Go.RowKit Go.Extern.Stop Go.Stop Go.Extern

theorem call15 (args : Array Value) (w : World) : (callFunc 15 args).run Ybaf.prog w = (FmtCalls.errorf #[9, 51] #[30] args).run Ybaf.prog w :=
  run_callFunc_next Ybaf.func15 (by kernel_rfl) (by kernel_rfl) (by kernel_rfl) args w
theorem fguard (name : String) (w : World) : (FmtStop.guard name).run Ybaf.prog w = .ok () w := by kernel_rfl
theorem nextTurns : Extern.next FmtCalls.turnsRow = some (FmtCalls.begun #[] #[]) := by kernel_rfl
-- the four formats
theorem fmtA (w : World) : (FmtDoors.printed ⟨#[83, 67, 84, 32, 108, 105, 115, 116, 58, 32, 37, 119]⟩ 1).run Ybaf.prog w = .ok [(0, 119, false)] w := by kernel_rfl
theorem fmtB (w : World) : (FmtDoors.printed ⟨#[37, 100, 32, 98, 121, 116, 101, 115, 32, 97, 102, 116, 101, 114, 32, 116, 104, 101, 32, 83, 67, 84, 32, 108, 105, 115, 116]⟩ 1).run Ybaf.prog w = .ok [(0, 100, false)] w := by kernel_rfl
theorem fmtC (w : World) : (FmtDoors.printed ⟨#[83, 67, 84, 32, 37, 100, 58, 32, 37, 119]⟩ 2).run Ybaf.prog w = .ok [(0, 100, false), (1, 119, false)] w := by kernel_rfl
theorem fmtD (w : World) : (FmtDoors.printed ⟨#[83, 67, 84, 32, 37, 100, 58, 32, 101, 109, 112, 116, 121]⟩ 1).run Ybaf.prog w = .ok [(0, 100, false)] w := by kernel_rfl
-- the operands: an int under d; an error of errors.New's make under w
theorem act3 (name : String) (x : Value) (w : World) : (FmtCalls.act name true 100 false (.iface 3 x)).run Ybaf.prog w = .ok (.closed true) w := by kernel_rfl
theorem act54 (name : String) (x : Value) (w : World) : (FmtCalls.act name true 119 false (.iface 54 x)).run Ybaf.prog w = .ok (.closed true) w := by kernel_rfl
def shape3 : List UInt8 := [5, 3, 0, 0, 0, 0, 0, 0, 0, 105, 110, 116]
theorem op3 (name : String) (x : Int) (w : World) : (FmtStop.operand name true 100 false (.iface 3 (.int .i64 x))).run Ybaf.prog w = .ok (shape3, Go.Extern.Stop.digits 8 (x % 2 ^ 64).toNat) w := by kernel_rfl
def plain54 : List UInt8 := 14 :: FmtStop.pack sentName.toUTF8.data.toList
theorem op54 (name : String) (a : Addr) (s : ByteArray) (w : World) (hc : w.cell? a = some (.string s)) :
    (FmtStop.operand name true 119 false (.iface 54 (.pointer (some a)))).run Ybaf.prog w = .ok (plain54, s.data.toList) w := by
  have h1 : (typeStr 54).run Ybaf.prog w = .ok sentName w := by kernel_rfl
  have d2 : Ybaf.t54.desc = .pointer 56 := rfl
  have d3 : Ybaf.t56.desc = .named "errors.errorString" 55 := rfl
  simp [FmtStop.operand, h1, d2, d3, run_load, hc, plain54]
theorem ptr54 (w : World) : (FmtStop.ptrTo "errors.errorString").run Ybaf.prog w = .ok 54 w := by kernel_rfl
theorem elem54 (w : World) : (elemOf 54).run Ybaf.prog w = .ok 56 w := by kernel_rfl
theorem isErr54 (w : World) : (FmtDoors.textMethod 54 "Error").run Ybaf.prog w = .ok true w := by kernel_rfl
theorem ptr52 (w : World) : (FmtStop.ptrTo "fmt.wrapError").run Ybaf.prog w = .ok 52 w := by kernel_rfl
theorem elem52 (w : World) : (elemOf 52).run Ybaf.prog w = .ok 76 w := by kernel_rfl

attribute [local go_sem] call15 fguard fmtA fmtB fmtC fmtD act3 act54 op3 ptr54 elem54 isErr54 ptr52 elem52

set_option maxHeartbeats 800000 in
/-- fmt.Errorf: the list is cut off. -/
theorem errorf_A (blk : Nat) (w : World) (a : Addr) (s : ByteArray) (hc0 : w.cell? ⟨blk, 0, none⟩ = some (.iface 54 (.pointer (some a)))) (ha : w.cell? a = some (.string s)) :
    Calls Ybaf.prog 11 #[.string ⟨#[83, 67, 84, 32, 108, 105, 115, 116, 58, 32, 37, 119]⟩, .slice (some ⟨blk, 0, none⟩) 1 1] w fun e w' => ∃ t g, e = .returned (.iface t (.pointer (some g))) ∧ Below w.heap.size w w' := by
  have hop := fun name => op54 name a s w ha
  go_enter Ybaf.func11, Ybaf.ntmps11
  go_wp2
  apply rows_value nextTurns
  case hr =>
    go_simp
    exact ⟨rfl, rfl⟩
  case h =>
    go_wp2
    go_ret
    exact ⟨_, _, rfl, ((Below.refl _ _).alloc (Nat.le_refl _) _).drew⟩

set_option maxHeartbeats 800000 in
/-- fmt.Errorf: bytes behind the list. -/
theorem errorf_B (blk : Nat) (w : World) (n : Int) (hc0 : w.cell? ⟨blk, 0, none⟩ = some (.iface 3 (.int .i64 n))) :
    Calls Ybaf.prog 11 #[.string ⟨#[37, 100, 32, 98, 121, 116, 101, 115, 32, 97, 102, 116, 101, 114, 32, 116, 104, 101, 32, 83, 67, 84, 32, 108, 105, 115, 116]⟩, .slice (some ⟨blk, 0, none⟩) 1 1] w fun e w' => ∃ t g, e = .returned (.iface t (.pointer (some g))) ∧ Below w.heap.size w w' := by
  go_enter Ybaf.func11, Ybaf.ntmps11
  go_wp2
  apply rows_value nextTurns
  case hr =>
    go_simp
    exact ⟨rfl, rfl⟩
  case h =>
    go_wp2
    go_ret
    exact ⟨_, _, rfl, ((Below.refl _ _).alloc (Nat.le_refl _) _).drew⟩

set_option maxHeartbeats 800000 in
/-- fmt.Errorf: an item is cut off. -/
theorem errorf_C (blk : Nat) (w : World) (n : Int) (a : Addr) (s : ByteArray) (hc0 : w.cell? ⟨blk, 0, none⟩ = some (.iface 3 (.int .i64 n))) (hc1 : w.cell? ⟨blk, 1, none⟩ = some (.iface 54 (.pointer (some a)))) (ha : w.cell? a = some (.string s)) :
    Calls Ybaf.prog 11 #[.string ⟨#[83, 67, 84, 32, 37, 100, 58, 32, 37, 119]⟩, .slice (some ⟨blk, 0, none⟩) 2 2] w fun e w' => ∃ t g, e = .returned (.iface t (.pointer (some g))) ∧ Below w.heap.size w w' := by
  have hop := fun name => op54 name a s w ha
  go_enter Ybaf.func11, Ybaf.ntmps11
  go_wp2
  apply rows_value nextTurns
  case hr =>
    go_simp
    exact ⟨rfl, rfl⟩
  case h =>
    go_wp2
    go_ret
    exact ⟨_, _, rfl, ((Below.refl _ _).alloc (Nat.le_refl _) _).drew⟩

set_option maxHeartbeats 800000 in
/-- fmt.Errorf: an item is empty. -/
theorem errorf_D (blk : Nat) (w : World) (n : Int) (hc0 : w.cell? ⟨blk, 0, none⟩ = some (.iface 3 (.int .i64 n))) :
    Calls Ybaf.prog 11 #[.string ⟨#[83, 67, 84, 32, 37, 100, 58, 32, 101, 109, 112, 116, 121]⟩, .slice (some ⟨blk, 0, none⟩) 1 1] w fun e w' => ∃ t g, e = .returned (.iface t (.pointer (some g))) ∧ Below w.heap.size w w' := by
  go_enter Ybaf.func11, Ybaf.ntmps11
  go_wp2
  apply rows_value nextTurns
  case hr =>
    go_simp
    exact ⟨rfl, rfl⟩
  case h =>
    go_wp2
    go_ret
    exact ⟨_, _, rfl, ((Below.refl _ _).alloc (Nat.le_refl _) _).drew⟩

end Go.Proofs.YbulkawwsFmt
