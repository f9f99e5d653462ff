/-
  Seat b0231aF: closed facts on fmt's stopped front at this dump (in the make of the guide's CheckFmt.lean), and the contract of fmt.Errorf (8) at the one format of the road.
-/
import Derived.Test.YbulkdtkFmtProg
import Derived.Stop.CallBack
import Derived.Stop.IfaceNil
import GoSem.ClaimData
import Derived.WalkKit
import Derived.WalkSpells
namespace Go.Proofs.YbulkdtkFmt
open Go.Extern.Stop Go.Stop Go.Extern Go.RowKit

@[go_sem] theorem call9 (args : Array Value) (w : World) : (callFunc 9 args).run Ybaf.prog w = ((FmtStop.errorf #[9, 48] #[39] args).run Ybaf.prog w).andThen fun v w' => .ok (.value v) w' :=
  run_callFunc_extern Ybaf.func9 (by kernel_rfl) (by kernel_rfl) (by kernel_rfl) (by kernel_rfl) args w
@[go_sem] theorem guard9 (name : String) (w : World) : (FmtStop.guard name).run Ybaf.prog w = .ok () w := by kernel_rfl
/-- the format: "column %d: a quoted name may not be empty" -/
def fm : ByteArray := ⟨#[99, 111, 108, 117, 109, 110, 32, 37, 100, 58, 32, 97, 32, 113, 117, 111, 116, 101, 100, 32, 110, 97, 109, 101, 32, 109, 97, 121, 32, 110, 111, 116, 32, 98, 101, 32, 101, 109, 112, 116, 121]⟩
@[go_sem] theorem fmt0 : FmtStop.printed? ⟨#[99, 111, 108, 117, 109, 110, 32, 37, 100, 58, 32, 97, 32, 113, 117, 111, 116, 101, 100, 32, 110, 97, 109, 101, 32, 109, 97, 121, 32, 110, 111, 116, 32, 98, 101, 32, 101, 109, 112, 116, 121]⟩ 1 = some [(0, 100, false)] := by kernel_rfl
@[go_sem] theorem fmt0r (w : World) : (FmtDoors.printed ⟨#[99, 111, 108, 117, 109, 110, 32, 37, 100, 58, 32, 97, 32, 113, 117, 111, 116, 101, 100, 32, 110, 97, 109, 101, 32, 109, 97, 121, 32, 110, 111, 116, 32, 98, 101, 32, 101, 109, 112, 116, 121]⟩ 1).run Ybaf.prog w = .ok [(0, 100, false)] w := by kernel_rfl
@[go_sem] theorem fmt1 : FmtStop.printed? ⟨#[99, 111, 108, 117, 109, 110, 32, 37, 100, 58, 32, 97, 32, 113, 117, 111, 116, 101, 100, 32, 110, 97, 109, 101, 32, 109, 97, 121, 32, 110, 111, 116, 32, 98, 101, 32, 101, 109, 112, 116, 121]⟩ 0 = some [] := by kernel_rfl
@[go_sem] theorem fmt1r (w : World) : (FmtDoors.printed ⟨#[99, 111, 108, 117, 109, 110, 32, 37, 100, 58, 32, 97, 32, 113, 117, 111, 116, 101, 100, 32, 110, 97, 109, 101, 32, 109, 97, 121, 32, 110, 111, 116, 32, 98, 101, 32, 101, 109, 112, 116, 121]⟩ 0).run Ybaf.prog w = .ok [] w := by kernel_rfl
def shape3 : List UInt8 := [5, 3, 0, 0, 0, 0, 0, 0, 0, 105, 110, 116]
@[go_sem] theorem op3_118 (name : String) (x : Int) (w : World) : (FmtStop.operand name false 118 false (.iface 3 (.int .i64 x))).run Ybaf.prog w = .ok (shape3, Go.Extern.Stop.digits 8 (x % 2 ^ 64).toNat) w := by kernel_rfl
@[go_sem] theorem op3_100 (name : String) (x : Int) (w : World) : (FmtStop.operand name false 100 false (.iface 3 (.int .i64 x))).run Ybaf.prog w = .ok (shape3, Go.Extern.Stop.digits 8 (x % 2 ^ 64).toNat) w := by kernel_rfl
@[go_sem] theorem op3_118w (name : String) (x : Int) (w : World) : (FmtStop.operand name true 118 false (.iface 3 (.int .i64 x))).run Ybaf.prog w = .ok (shape3, Go.Extern.Stop.digits 8 (x % 2 ^ 64).toNat) w := by kernel_rfl
@[go_sem] theorem op3_100w (name : String) (x : Int) (w : World) : (FmtStop.operand name true 100 false (.iface 3 (.int .i64 x))).run Ybaf.prog w = .ok (shape3, Go.Extern.Stop.digits 8 (x % 2 ^ 64).toNat) w := by kernel_rfl
@[go_sem] theorem strict3 (name : String) (x : Int) (w : World) : (FmtStop.strict name (.iface 3 (.int .i64 x))).run Ybaf.prog w = .ok (shape3, Go.Extern.Stop.digits 8 (x % 2 ^ 64).toNat) w := by kernel_rfl
@[go_sem] theorem ptr51 (w : World) : (FmtStop.ptrTo "errors.errorString").run Ybaf.prog w = .ok 51 w := by kernel_rfl
@[go_sem] theorem elem51 (w : World) : (elemOf 51).run Ybaf.prog w = .ok 53 w := by kernel_rfl
@[go_sem] theorem isError51 (w : World) : (FmtDoors.textMethod 51 "Error").run Ybaf.prog w = .ok true w := by kernel_rfl

set_option maxHeartbeats 1000000 in
theorem errorf_any (F : Interp) (b : Nat) (x : Int) (w : World) (hF : F.answers w.tape) (hc : w.cell? ⟨b, 0, none⟩ = some (.iface 3 (.int .i64 x))) :
    Calls Ybaf.prog 8 #[.string ⟨#[99, 111, 108, 117, 109, 110, 32, 37, 100, 58, 32, 97, 32, 113, 117, 111, 116, 101, 100, 32, 110, 97, 109, 101, 32, 109, 97, 121, 32, 110, 111, 116, 32, 98, 101, 32, 101, 109, 112, 116, 121]⟩, .slice (some ⟨b, 0, none⟩) 1 1] w
      fun e w' => (∃ a, e = .returned (.iface 51 (.pointer (some a)))) ∧ Below w.heap.size w w' := by
  have hF' := answers_open hF
  go_enter Ybaf.func8, Ybaf.ntmps8
  go_wp2
  go_ret
  exact ⟨⟨_, rfl⟩, ((Below.refl _ _).alloc (Nat.le_refl _) _).drew⟩
end Go.Proofs.YbulkdtkFmt
