/-
  No cell of these rows narrows 'for every input' (looked for: loops, veiled, ifaces, maps, wideKeys, modest, calm, conditions, laid).
  DERIVED. THE GIVEN ROWS OF THIS SEAT. 2 by the template 'for every input the law returns true; each argument reads behind the call as it read before'; 0 by the template 'total and deterministic' (their statements: YbulkdtkTotals.lean).
  GIVEN WITH THE SEED: the statements are not yours to turn. If you find one false, say at which input.
  Laid BY PROGRAM, IN A SANDBOX (cutbox-rows.mjs): the forced cells as the released guide's own fill.sh prints them over the translation 996a9cb58c732da4… (all of the seat's roots in one cut). By AI agents, Wed Nov 11 2026. No macro, syntax, notation, axiom, sorry.
-/
import Derived.Test.YbulkdtkChecked
import GoSem.Claim
import GoSem.ClaimJoined
import GoSem.ClaimMapViews
import Derived.JoinedTies
import Derived.KernelRfl
namespace Go.Proofs.Ybulkdtk
/- THE CELL 'sum', in the pinned program and in every row, IS THE sha256 OF THE DUMP (.gsa) THAT YbulkdtkProg.lean LOADS. Nothing in Lean hashes anything: it is a label: what it is worth is what the hold of that sum in a sandbox is worth. -/
noncomputable def Yba.pinned : Pinned := { name := "ybulkdtk", sum := "996a9cb58c732da4f1e39846815ecbb77bc0a5df0d83bb90e034aa38d26384fe", checked := Yba.checked }
namespace Rows
def none {H : Type} : Left H := { results := [], args := [] }

/-- 'nullwise.LawS0231AModel': WHATEVER THE INPUT: true; the input reads as it did. -/
def lawS0231AModelSpec : ChangeSpec := { name := "lawS0231AModel", fn := fun _ => fun
  | [d1, d2] => { results := [.lit (.bool true)], args := [d1, d2] }
  | _ => none }
def lawS0231AModelRow : OpenClaim := { program := "ybulkdtk", sum := "996a9cb58c732da4f1e39846815ecbb77bc0a5df0d83bb90e034aa38d26384fe", func := "example.com/nullwise/nullwise.LawS0231AModel", spec := "lawS0231AModel", apart := false }
def LawS0231AModelSaid : Prop := lawS0231AModelRow.holds Yba.pinned (OpenSpec.ofChange lawS0231AModelSpec)

/-- ITS FALSE NEIGHBOUR: 'it returns false'. Refute it at one input. -/
def lawS0231AModelWrong : ChangeSpec := { name := "lawS0231AModel", fn := fun _ => fun
  | [d1, d2] => { results := [.lit (.bool false)], args := [d1, d2] }
  | _ => none }
def LawS0231AModelWrongFalsely : Prop := lawS0231AModelRow.holds Yba.pinned (OpenSpec.ofChange lawS0231AModelWrong)

/-- 'nullwise.LawS0231AEveryStart': WHATEVER THE INPUT: true; the input reads as it did. -/
def lawS0231AEveryStartSpec : ChangeSpec := { name := "lawS0231AEveryStart", fn := fun _ => fun
  | [d] => { results := [.lit (.bool true)], args := [d] }
  | _ => none }
def lawS0231AEveryStartRow : OpenClaim := { program := "ybulkdtk", sum := "996a9cb58c732da4f1e39846815ecbb77bc0a5df0d83bb90e034aa38d26384fe", func := "example.com/nullwise/nullwise.LawS0231AEveryStart", spec := "lawS0231AEveryStart", apart := false }
def LawS0231AEveryStartSaid : Prop := lawS0231AEveryStartRow.holds Yba.pinned (OpenSpec.ofChange lawS0231AEveryStartSpec)

/-- ITS FALSE NEIGHBOUR: 'it returns false'. Refute it at one input. -/
def lawS0231AEveryStartWrong : ChangeSpec := { name := "lawS0231AEveryStart", fn := fun _ => fun
  | [d] => { results := [.lit (.bool false)], args := [d] }
  | _ => none }
def LawS0231AEveryStartWrongFalsely : Prop := lawS0231AEveryStartRow.holds Yba.pinned (OpenSpec.ofChange lawS0231AEveryStartWrong)

end Rows
end Go.Proofs.Ybulkdtk
