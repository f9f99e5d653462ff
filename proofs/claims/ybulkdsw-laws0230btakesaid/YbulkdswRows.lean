/-
  No cell of these rows narrows 'for every input' (looked for: loops, veiled, ifaces, maps, wideKeys, modest, calm, conditions, laid).
  DERIVED. THE GIVEN ROWS OF THIS SEAT. 1 by the template 'for every input the law returns true; each argument reads behind the call as it read before'; 0 by the template 'total and deterministic' (their statements: YbulkdswTotals.lean).
  GIVEN WITH THE SEED: the statements are not yours to turn. If you find one false, say at which input.
  Laid BY PROGRAM, IN A SANDBOX (cutbox-rows.mjs): the forced cells as the released guide's own fill.sh prints them over the translation ed392224cedce876… (all of the seat's roots in one cut). By AI agents, Wed Nov 11 2026. No macro, syntax, notation, axiom, sorry.
-/
import Derived.Test.YbulkdswChecked
import GoSem.Claim
import GoSem.ClaimJoined
import GoSem.ClaimMapViews
import Derived.JoinedTies
import Derived.KernelRfl
namespace Go.Proofs.Ybulkdsw
/- THE CELL 'sum', in the pinned program and in every row, IS THE sha256 OF THE DUMP (.gsa) THAT YbulkdswProg.lean LOADS. Nothing in Lean hashes anything: it is a label: what it is worth is what the hold of that sum in a sandbox is worth. -/
noncomputable def Yba.pinned : Pinned := { name := "ybulkdsw", sum := "ed392224cedce8766cb824e47878ce090653b80e87ebaf6a7503eb9d4ce5e929", checked := Yba.checked }
namespace Rows
def none {H : Type} : Left H := { results := [], args := [] }

/-- 'rollcall.LawS0230BTake': WHATEVER THE INPUT: true; the input reads as it did. -/
def lawS0230BTakeSpec : ChangeSpec := { name := "lawS0230BTake", fn := fun _ => fun
  | [d1, d2, d3, d4, d5, d6, d7, d8] => { results := [.lit (.bool true)], args := [d1, d2, d3, d4, d5, d6, d7, d8] }
  | _ => none }
def lawS0230BTakeRow : OpenClaim := { program := "ybulkdsw", sum := "ed392224cedce8766cb824e47878ce090653b80e87ebaf6a7503eb9d4ce5e929", func := "example.com/rollcall/rollcall.LawS0230BTake", spec := "lawS0230BTake", inPlace := ["internal/bytealg.abigen_runtime_cmpstring"], unfollowed := true, recurses := true, apart := false }
def LawS0230BTakeSaid : Prop := lawS0230BTakeRow.holds Yba.pinned (OpenSpec.ofChange lawS0230BTakeSpec)

/-- ITS FALSE NEIGHBOUR: 'it returns false'. Refute it at one input. -/
def lawS0230BTakeWrong : ChangeSpec := { name := "lawS0230BTake", fn := fun _ => fun
  | [d1, d2, d3, d4, d5, d6, d7, d8] => { results := [.lit (.bool false)], args := [d1, d2, d3, d4, d5, d6, d7, d8] }
  | _ => none }
def LawS0230BTakeWrongFalsely : Prop := lawS0230BTakeRow.holds Yba.pinned (OpenSpec.ofChange lawS0230BTakeWrong)

end Rows
end Go.Proofs.Ybulkdsw
