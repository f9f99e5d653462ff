/-
  Seat b0230aF: closed facts on fmt's stopped front at this dump (in the make of the guide's CheckFmt.lean), and the contract of fmt.Errorf (19) at the three formats of the road.
-/
import Derived.Test.YbulkdswFmtProg
import Derived.Stop.CallBack
import Derived.Stop.IfaceNil
import GoSem.ClaimData
import Derived.WalkKit
import Derived.WalkSpells
namespace Go.Proofs.YbulkdswFmt
open Go.Extern.Stop Go.Stop Go.Extern Go.RowKit

@[go_sem] theorem call24 (args : Array Value) (w : World) : (callFunc 24 args).run Ybaf.prog w = ((FmtStop.errorf #[9, 65] #[47] args).run Ybaf.prog w).andThen fun v w' => .ok (.value v) w' :=
  run_callFunc_extern Ybaf.func24 (by kernel_rfl) (by kernel_rfl) (by kernel_rfl) (by kernel_rfl) args w
@[go_sem] theorem guard24 (name : String) (w : World) : (FmtStop.guard name).run Ybaf.prog w = .ok () w := by kernel_rfl
@[go_sem] theorem fmt0 : FmtStop.printed? ⟨#[109, 101, 115, 115, 97, 103, 101, 32, 99, 108, 97, 105, 109, 115, 32, 37, 100, 32, 98, 121, 116, 101, 115, 44, 32, 111, 117, 116, 115, 105, 100, 101, 32, 37, 100, 32, 116, 111, 32, 37, 100]⟩ 3 = some [(0, 100, false), (1, 100, false), (2, 100, false)] := by kernel_rfl
@[go_sem] theorem fmt0r (w : World) : (FmtDoors.printed ⟨#[109, 101, 115, 115, 97, 103, 101, 32, 99, 108, 97, 105, 109, 115, 32, 37, 100, 32, 98, 121, 116, 101, 115, 44, 32, 111, 117, 116, 115, 105, 100, 101, 32, 37, 100, 32, 116, 111, 32, 37, 100]⟩ 3).run Ybaf.prog w = .ok [(0, 100, false), (1, 100, false), (2, 100, false)] w := by kernel_rfl
@[go_sem] theorem fmz0 : FmtStop.printed? ⟨#[109, 101, 115, 115, 97, 103, 101, 32, 99, 108, 97, 105, 109, 115, 32, 37, 100, 32, 98, 121, 116, 101, 115, 44, 32, 111, 117, 116, 115, 105, 100, 101, 32, 37, 100, 32, 116, 111, 32, 37, 100]⟩ 0 = some [] := by kernel_rfl
@[go_sem] theorem fmz0r (w : World) : (FmtDoors.printed ⟨#[109, 101, 115, 115, 97, 103, 101, 32, 99, 108, 97, 105, 109, 115, 32, 37, 100, 32, 98, 121, 116, 101, 115, 44, 32, 111, 117, 116, 115, 105, 100, 101, 32, 37, 100, 32, 116, 111, 32, 37, 100]⟩ 0).run Ybaf.prog w = .ok [] w := by kernel_rfl
@[go_sem] theorem fmt1 : FmtStop.printed? ⟨#[114, 101, 112, 108, 121, 32, 104, 97, 115, 32, 111, 112, 67, 111, 100, 101, 32, 37, 100, 44, 32, 119, 97, 110, 116, 32, 37, 100]⟩ 2 = some [(0, 100, false), (1, 100, false)] := by kernel_rfl
@[go_sem] theorem fmt1r (w : World) : (FmtDoors.printed ⟨#[114, 101, 112, 108, 121, 32, 104, 97, 115, 32, 111, 112, 67, 111, 100, 101, 32, 37, 100, 44, 32, 119, 97, 110, 116, 32, 37, 100]⟩ 2).run Ybaf.prog w = .ok [(0, 100, false), (1, 100, false)] w := by kernel_rfl
@[go_sem] theorem fmz1 : FmtStop.printed? ⟨#[114, 101, 112, 108, 121, 32, 104, 97, 115, 32, 111, 112, 67, 111, 100, 101, 32, 37, 100, 44, 32, 119, 97, 110, 116, 32, 37, 100]⟩ 0 = some [] := by kernel_rfl
@[go_sem] theorem fmz1r (w : World) : (FmtDoors.printed ⟨#[114, 101, 112, 108, 121, 32, 104, 97, 115, 32, 111, 112, 67, 111, 100, 101, 32, 37, 100, 44, 32, 119, 97, 110, 116, 32, 37, 100]⟩ 0).run Ybaf.prog w = .ok [] w := by kernel_rfl
@[go_sem] theorem fmt2 : FmtStop.printed? ⟨#[114, 101, 112, 108, 121, 32, 97, 110, 115, 119, 101, 114, 115, 32, 114, 101, 113, 117, 101, 115, 116, 32, 37, 100, 44, 32, 119, 97, 110, 116, 32, 37, 100]⟩ 2 = some [(0, 100, false), (1, 100, false)] := by kernel_rfl
@[go_sem] theorem fmt2r (w : World) : (FmtDoors.printed ⟨#[114, 101, 112, 108, 121, 32, 97, 110, 115, 119, 101, 114, 115, 32, 114, 101, 113, 117, 101, 115, 116, 32, 37, 100, 44, 32, 119, 97, 110, 116, 32, 37, 100]⟩ 2).run Ybaf.prog w = .ok [(0, 100, false), (1, 100, false)] w := by kernel_rfl
@[go_sem] theorem fmz2 : FmtStop.printed? ⟨#[114, 101, 112, 108, 121, 32, 97, 110, 115, 119, 101, 114, 115, 32, 114, 101, 113, 117, 101, 115, 116, 32, 37, 100, 44, 32, 119, 97, 110, 116, 32, 37, 100]⟩ 0 = some [] := by kernel_rfl
@[go_sem] theorem fmz2r (w : World) : (FmtDoors.printed ⟨#[114, 101, 112, 108, 121, 32, 97, 110, 115, 119, 101, 114, 115, 32, 114, 101, 113, 117, 101, 115, 116, 32, 37, 100, 44, 32, 119, 97, 110, 116, 32, 37, 100]⟩ 0).run Ybaf.prog w = .ok [] w := by kernel_rfl
def shape3 : List UInt8 := [5, 3, 0, 0, 0, 0, 0, 0, 0, 105, 110, 116]
def shape21 : List UInt8 := [4, 5, 0, 0, 0, 0, 0, 0, 0, 105, 110, 116, 51, 50]
@[go_sem] theorem op3_118 (name : String) (x : Int) (w : World) : (FmtStop.operand name false 118 false (.iface 3 (.int .i64 x))).run Ybaf.prog w = .ok (shape3, Go.Extern.Stop.digits 8 (x % 2 ^ 64).toNat) w := by kernel_rfl
@[go_sem] theorem op3_118w (name : String) (x : Int) (w : World) : (FmtStop.operand name true 118 false (.iface 3 (.int .i64 x))).run Ybaf.prog w = .ok (shape3, Go.Extern.Stop.digits 8 (x % 2 ^ 64).toNat) w := by kernel_rfl
@[go_sem] theorem op3_100 (name : String) (x : Int) (w : World) : (FmtStop.operand name false 100 false (.iface 3 (.int .i64 x))).run Ybaf.prog w = .ok (shape3, Go.Extern.Stop.digits 8 (x % 2 ^ 64).toNat) w := by kernel_rfl
@[go_sem] theorem op3_100w (name : String) (x : Int) (w : World) : (FmtStop.operand name true 100 false (.iface 3 (.int .i64 x))).run Ybaf.prog w = .ok (shape3, Go.Extern.Stop.digits 8 (x % 2 ^ 64).toNat) w := by kernel_rfl
@[go_sem] theorem strict3 (name : String) (x : Int) (w : World) : (FmtStop.strict name (.iface 3 (.int .i64 x))).run Ybaf.prog w = .ok (shape3, Go.Extern.Stop.digits 8 (x % 2 ^ 64).toNat) w := by kernel_rfl
@[go_sem] theorem op21_118 (name : String) (x : Int) (w : World) : (FmtStop.operand name false 118 false (.iface 21 (.int .i32 x))).run Ybaf.prog w = .ok (shape21, Go.Extern.Stop.digits 8 (x % 2 ^ 64).toNat) w := by kernel_rfl
@[go_sem] theorem op21_118w (name : String) (x : Int) (w : World) : (FmtStop.operand name true 118 false (.iface 21 (.int .i32 x))).run Ybaf.prog w = .ok (shape21, Go.Extern.Stop.digits 8 (x % 2 ^ 64).toNat) w := by kernel_rfl
@[go_sem] theorem op21_100 (name : String) (x : Int) (w : World) : (FmtStop.operand name false 100 false (.iface 21 (.int .i32 x))).run Ybaf.prog w = .ok (shape21, Go.Extern.Stop.digits 8 (x % 2 ^ 64).toNat) w := by kernel_rfl
@[go_sem] theorem op21_100w (name : String) (x : Int) (w : World) : (FmtStop.operand name true 100 false (.iface 21 (.int .i32 x))).run Ybaf.prog w = .ok (shape21, Go.Extern.Stop.digits 8 (x % 2 ^ 64).toNat) w := by kernel_rfl
@[go_sem] theorem strict21 (name : String) (x : Int) (w : World) : (FmtStop.strict name (.iface 21 (.int .i32 x))).run Ybaf.prog w = .ok (shape21, Go.Extern.Stop.digits 8 (x % 2 ^ 64).toNat) w := by kernel_rfl
@[go_sem] theorem ptr71 (w : World) : (FmtStop.ptrTo "errors.errorString").run Ybaf.prog w = .ok 71 w := by kernel_rfl
@[go_sem] theorem elem71 (w : World) : (elemOf 71).run Ybaf.prog w = .ok 73 w := by kernel_rfl
@[go_sem] theorem isError71 (w : World) : (FmtDoors.textMethod 71 "Error").run Ybaf.prog w = .ok true w := by kernel_rfl


set_option maxHeartbeats 1000000 in
theorem errorf0 (F : Interp) (b : Nat) (x y z : Int) (w : World) (hF : F.answers w.tape) (h0 : w.cell? ⟨b, 0, none⟩ = some (.iface 21 (.int .i32 x))) (h1 : w.cell? ⟨b, 1, none⟩ = some (.iface 3 (.int .i64 y))) (h2 : w.cell? ⟨b, 2, none⟩ = some (.iface 3 (.int .i64 z))) :
    Calls Ybaf.prog 19 #[.string ⟨#[109, 101, 115, 115, 97, 103, 101, 32, 99, 108, 97, 105, 109, 115, 32, 37, 100, 32, 98, 121, 116, 101, 115, 44, 32, 111, 117, 116, 115, 105, 100, 101, 32, 37, 100, 32, 116, 111, 32, 37, 100]⟩, .slice (some ⟨b, 0, none⟩) 3 3] w
      fun e w' => (∃ a, e = .returned (.iface 71 (.pointer (some a)))) ∧ Below w.heap.size w w' := by
  have hF' := answers_open hF
  go_enter Ybaf.func19, Ybaf.ntmps19
  go_wp2
  go_ret
  exact ⟨⟨_, rfl⟩, ((Below.refl _ _).alloc (Nat.le_refl _) _).drew⟩

set_option maxHeartbeats 1000000 in
theorem errorf1 (F : Interp) (b : Nat) (x y : Int) (w : World) (hF : F.answers w.tape) (h0 : w.cell? ⟨b, 0, none⟩ = some (.iface 21 (.int .i32 x))) (h1 : w.cell? ⟨b, 1, none⟩ = some (.iface 21 (.int .i32 y))) :
    Calls Ybaf.prog 19 #[.string ⟨#[114, 101, 112, 108, 121, 32, 104, 97, 115, 32, 111, 112, 67, 111, 100, 101, 32, 37, 100, 44, 32, 119, 97, 110, 116, 32, 37, 100]⟩, .slice (some ⟨b, 0, none⟩) 2 2] w
      fun e w' => (∃ a, e = .returned (.iface 71 (.pointer (some a)))) ∧ Below w.heap.size w w' := by
  have hF' := answers_open hF
  go_enter Ybaf.func19, Ybaf.ntmps19
  go_wp2
  go_ret
  exact ⟨⟨_, rfl⟩, ((Below.refl _ _).alloc (Nat.le_refl _) _).drew⟩

set_option maxHeartbeats 1000000 in
theorem errorf2 (F : Interp) (b : Nat) (x y : Int) (w : World) (hF : F.answers w.tape) (h0 : w.cell? ⟨b, 0, none⟩ = some (.iface 21 (.int .i32 x))) (h1 : w.cell? ⟨b, 1, none⟩ = some (.iface 21 (.int .i32 y))) :
    Calls Ybaf.prog 19 #[.string ⟨#[114, 101, 112, 108, 121, 32, 97, 110, 115, 119, 101, 114, 115, 32, 114, 101, 113, 117, 101, 115, 116, 32, 37, 100, 44, 32, 119, 97, 110, 116, 32, 37, 100]⟩, .slice (some ⟨b, 0, none⟩) 2 2] w
      fun e w' => (∃ a, e = .returned (.iface 71 (.pointer (some a)))) ∧ Below w.heap.size w w' := by
  have hF' := answers_open hF
  go_enter Ybaf.func19, Ybaf.ntmps19
  go_wp2
  go_ret
  exact ⟨⟨_, rfl⟩, ((Below.refl _ _).alloc (Nat.le_refl _) _).drew⟩
end Go.Proofs.YbulkdswFmt
