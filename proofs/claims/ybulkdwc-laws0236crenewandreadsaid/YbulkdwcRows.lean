/-
  No cell of these rows narrows 'for every input' (looked for: loops, veiled, ifaces, maps, wideKeys, modest, calm, conditions, laid).
  DERIVED. THE GIVEN ROWS OF THIS SEAT. 3 by the template 'for every input the law returns true; each argument reads behind the call as it read before'; 0 by the template 'total and deterministic' (their statements: YbulkdwcTotals.lean).
  GIVEN WITH THE SEED: the statements are not yours to turn. If you find one false, say at which input.
  Laid BY PROGRAM, IN A SANDBOX (cutbox-rows.mjs): the forced cells as the released guide's own fill.sh prints them over the translation 7f50e0cff2990ed4… (all of the seat's roots in one cut). By AI agents, Wed Nov 11 2026. No macro, syntax, notation, axiom, sorry.
-/
import Derived.Test.YbulkdwcChecked
import GoSem.Claim
import GoSem.ClaimJoined
import GoSem.ClaimMapViews
import Derived.JoinedTies
import Derived.KernelRfl
namespace Go.Proofs.Ybulkdwc
/- THE CELL 'sum', in the pinned program and in every row, IS THE sha256 OF THE DUMP (.gsa) THAT YbulkdwcProg.lean LOADS. Nothing in Lean hashes anything: it is a label: what it is worth is what the hold of that sum in a sandbox is worth. -/
noncomputable def Yba.pinned : Pinned := { name := "ybulkdwc", sum := "7f50e0cff2990ed4a0b892d86e4107bb5da98586c8ea76887508bb6ee690f021", checked := Yba.checked }
namespace Rows
def none {H : Type} : Left H := { results := [], args := [] }

/-- 'evenkeel.LawS0236BExact': WHATEVER THE INPUT: true; the input reads as it did. -/
def lawS0236BExactSpec : ChangeSpec := { name := "lawS0236BExact", fn := fun _ => fun
  | [d1, d2, d3] => { results := [.lit (.bool true)], args := [d1, d2, d3] }
  | _ => none }
def lawS0236BExactRow : OpenClaim := { program := "ybulkdwc", sum := "7f50e0cff2990ed4a0b892d86e4107bb5da98586c8ea76887508bb6ee690f021", func := "example.com/evenkeel/evenkeel.LawS0236BExact", spec := "lawS0236BExact", inPlace := ["math/bits.Add64"], apart := false }
def LawS0236BExactSaid : Prop := lawS0236BExactRow.holds Yba.pinned (OpenSpec.ofChange lawS0236BExactSpec)

/-- ITS FALSE NEIGHBOUR: 'it returns false'. Refute it at one input. -/
def lawS0236BExactWrong : ChangeSpec := { name := "lawS0236BExact", fn := fun _ => fun
  | [d1, d2, d3] => { results := [.lit (.bool false)], args := [d1, d2, d3] }
  | _ => none }
def LawS0236BExactWrongFalsely : Prop := lawS0236BExactRow.holds Yba.pinned (OpenSpec.ofChange lawS0236BExactWrong)

/-- 'evenkeel.LawS0236BOrder': WHATEVER THE INPUT: true; the input reads as it did. -/
def lawS0236BOrderSpec : ChangeSpec := { name := "lawS0236BOrder", fn := fun _ => fun
  | [d1, d2, d3, d4, d5] => { results := [.lit (.bool true)], args := [d1, d2, d3, d4, d5] }
  | _ => none }
def lawS0236BOrderRow : OpenClaim := { program := "ybulkdwc", sum := "7f50e0cff2990ed4a0b892d86e4107bb5da98586c8ea76887508bb6ee690f021", func := "example.com/evenkeel/evenkeel.LawS0236BOrder", spec := "lawS0236BOrder", inPlace := ["math/bits.Add64"], apart := false }
def LawS0236BOrderSaid : Prop := lawS0236BOrderRow.holds Yba.pinned (OpenSpec.ofChange lawS0236BOrderSpec)

/-- ITS FALSE NEIGHBOUR: 'it returns false'. Refute it at one input. -/
def lawS0236BOrderWrong : ChangeSpec := { name := "lawS0236BOrder", fn := fun _ => fun
  | [d1, d2, d3, d4, d5] => { results := [.lit (.bool false)], args := [d1, d2, d3, d4, d5] }
  | _ => none }
def LawS0236BOrderWrongFalsely : Prop := lawS0236BOrderRow.holds Yba.pinned (OpenSpec.ofChange lawS0236BOrderWrong)

/-- 'evenkeel.LawS0236CRenewAndRead': WHATEVER THE INPUT: true; the input reads as it did. -/
def lawS0236CRenewAndReadSpec : ChangeSpec := { name := "lawS0236CRenewAndRead", fn := fun _ => fun
  | [d1, d2, d3, d4, d5] => { results := [.lit (.bool true)], args := [d1, d2, d3, d4, d5] }
  | _ => none }
def lawS0236CRenewAndReadRow : OpenClaim := { program := "ybulkdwc", sum := "7f50e0cff2990ed4a0b892d86e4107bb5da98586c8ea76887508bb6ee690f021", func := "example.com/evenkeel/evenkeel.LawS0236CRenewAndRead", spec := "lawS0236CRenewAndRead", inPlace := ["(*internal/sync.Mutex).Lock", "internal/race.Disable", "sync/atomic.CompareAndSwapInt32", "internal/race.Enable", "internal/race.Acquire", "(*internal/sync.Mutex).lockSlow", "internal/sync.runtime_canSpin", "internal/sync.runtime_doSpin", "internal/sync.throw", "internal/sync.runtime_nanotime", "internal/sync.runtime_SemacquireMutex", "sync/atomic.AddInt32", "(*internal/sync.Mutex).Unlock", "internal/race.ReleaseMerge", "(*internal/sync.Mutex).unlockSlow", "internal/sync.fatal", "internal/sync.runtime_Semrelease", "math.Float64bits"], unfollowed := true, recurses := true, apart := false }
def LawS0236CRenewAndReadSaid : Prop := lawS0236CRenewAndReadRow.holds Yba.pinned (OpenSpec.ofChange lawS0236CRenewAndReadSpec)

/-- ITS FALSE NEIGHBOUR: 'it returns false'. Refute it at one input. -/
def lawS0236CRenewAndReadWrong : ChangeSpec := { name := "lawS0236CRenewAndRead", fn := fun _ => fun
  | [d1, d2, d3, d4, d5] => { results := [.lit (.bool false)], args := [d1, d2, d3, d4, d5] }
  | _ => none }
def LawS0236CRenewAndReadWrongFalsely : Prop := lawS0236CRenewAndReadRow.holds Yba.pinned (OpenSpec.ofChange lawS0236CRenewAndReadWrong)

end Rows
end Go.Proofs.Ybulkdwc
