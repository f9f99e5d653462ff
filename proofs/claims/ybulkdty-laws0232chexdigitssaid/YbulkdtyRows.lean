/-
  No cell of these rows narrows 'for every input' (looked for: loops, veiled, ifaces, maps, wideKeys, modest, calm, conditions, laid).
  DERIVED. THE GIVEN ROWS OF THIS SEAT. 3 by the template 'for every input the law returns true; each argument reads behind the call as it read before'; 0 by the template 'total and deterministic' (their statements: YbulkdtyTotals.lean).
  GIVEN WITH THE SEED: the statements are not yours to turn. If you find one false, say at which input.
  Laid BY PROGRAM, IN A SANDBOX (cutbox-rows.mjs): the forced cells as the released guide's own fill.sh prints them over the translation ceb40d5ae9c7313b… (all of the seat's roots in one cut). By AI agents, Wed Nov 11 2026. No macro, syntax, notation, axiom, sorry.
-/
import Derived.Test.YbulkdtyChecked
import GoSem.Claim
import GoSem.ClaimJoined
import GoSem.ClaimMapViews
import Derived.JoinedTies
import Derived.KernelRfl
namespace Go.Proofs.Ybulkdty
/- THE CELL 'sum', in the pinned program and in every row, IS THE sha256 OF THE DUMP (.gsa) THAT YbulkdtyProg.lean LOADS. Nothing in Lean hashes anything: it is a label: what it is worth is what the hold of that sum in a sandbox is worth. -/
noncomputable def Yba.pinned : Pinned := { name := "ybulkdty", sum := "ceb40d5ae9c7313b572f85af3580436cf2691a6de8a01489dc49dcf983ebf74d", checked := Yba.checked }
namespace Rows
def none {H : Type} : Left H := { results := [], args := [] }

/-- 'format.LawS0232AAt': WHATEVER THE INPUT: true; the input reads as it did. -/
def lawS0232AAtSpec : ChangeSpec := { name := "lawS0232AAt", fn := fun _ => fun
  | [d] => { results := [.lit (.bool true)], args := [d] }
  | _ => none }
def lawS0232AAtRow : OpenClaim := { program := "ybulkdty", sum := "ceb40d5ae9c7313b572f85af3580436cf2691a6de8a01489dc49dcf983ebf74d", func := "example.com/tracewake/tracewake/internal/format.LawS0232AAt", spec := "lawS0232AAt", unfollowed := true, recurses := true, apart := false }
def LawS0232AAtSaid : Prop := lawS0232AAtRow.holds Yba.pinned (OpenSpec.ofChange lawS0232AAtSpec)

/-- ITS FALSE NEIGHBOUR: 'it returns false'. Refute it at one input. -/
def lawS0232AAtWrong : ChangeSpec := { name := "lawS0232AAt", fn := fun _ => fun
  | [d] => { results := [.lit (.bool false)], args := [d] }
  | _ => none }
def LawS0232AAtWrongFalsely : Prop := lawS0232AAtRow.holds Yba.pinned (OpenSpec.ofChange lawS0232AAtWrong)

/-- 'format.LawS0232AAll': WHATEVER THE INPUT: true; the input reads as it did. -/
def lawS0232AAllSpec : ChangeSpec := { name := "lawS0232AAll", fn := fun _ => fun
  | [] => { results := [.lit (.bool true)], args := [] }
  | _ => none }
def lawS0232AAllRow : OpenClaim := { program := "ybulkdty", sum := "ceb40d5ae9c7313b572f85af3580436cf2691a6de8a01489dc49dcf983ebf74d", func := "example.com/tracewake/tracewake/internal/format.LawS0232AAll", spec := "lawS0232AAll", unfollowed := true, recurses := true, apart := false }
def LawS0232AAllSaid : Prop := lawS0232AAllRow.holds Yba.pinned (OpenSpec.ofChange lawS0232AAllSpec)

/-- ITS FALSE NEIGHBOUR: 'it returns false'. Refute it at one input. -/
def lawS0232AAllWrong : ChangeSpec := { name := "lawS0232AAll", fn := fun _ => fun
  | [] => { results := [.lit (.bool false)], args := [] }
  | _ => none }
def LawS0232AAllWrongFalsely : Prop := lawS0232AAllRow.holds Yba.pinned (OpenSpec.ofChange lawS0232AAllWrong)

/-- 'format.LawS0232CHexDigits': WHATEVER THE INPUT: true; the input reads as it did. -/
def lawS0232CHexDigitsSpec : ChangeSpec := { name := "lawS0232CHexDigits", fn := fun _ => fun
  | [d1, d2, d3, d4] => { results := [.lit (.bool true)], args := [d1, d2, d3, d4] }
  | _ => none }
def lawS0232CHexDigitsRow : OpenClaim := { program := "ybulkdty", sum := "ceb40d5ae9c7313b572f85af3580436cf2691a6de8a01489dc49dcf983ebf74d", func := "example.com/tracewake/tracewake/internal/format.LawS0232CHexDigits", spec := "lawS0232CHexDigits", named := ["encoding/binary.BigEndian"], apart := false }
def LawS0232CHexDigitsSaid : Prop := lawS0232CHexDigitsRow.holds Yba.pinned (OpenSpec.ofChange lawS0232CHexDigitsSpec)

/-- ITS FALSE NEIGHBOUR: 'it returns false'. Refute it at one input. -/
def lawS0232CHexDigitsWrong : ChangeSpec := { name := "lawS0232CHexDigits", fn := fun _ => fun
  | [d1, d2, d3, d4] => { results := [.lit (.bool false)], args := [d1, d2, d3, d4] }
  | _ => none }
def LawS0232CHexDigitsWrongFalsely : Prop := lawS0232CHexDigitsRow.holds Yba.pinned (OpenSpec.ofChange lawS0232CHexDigitsWrong)

end Rows
end Go.Proofs.Ybulkdty
