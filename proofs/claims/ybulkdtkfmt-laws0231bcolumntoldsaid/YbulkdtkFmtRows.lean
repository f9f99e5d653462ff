/-
  No cell of these rows narrows 'for every input' (looked for: loops, veiled, ifaces, maps, wideKeys, modest, calm, conditions, laid).
  DERIVED. THE GIVEN ROWS OF THIS SEAT. 1 by the template 'for every input the law returns true; each argument reads behind the call as it read before'; 0 by the template 'total and deterministic' (their statements: YbulkdtkFmtTotals.lean).
  GIVEN WITH THE SEED: the statements are not yours to turn. If you find one false, say at which input.
  Laid BY PROGRAM, IN A SANDBOX (cutbox-rows.mjs): the forced cells as the released guide's own fill.sh prints them over the translation ce9e531366f40341… (all of the seat's roots in one cut). By AI agents, Wed Nov 11 2026. No macro, syntax, notation, axiom, sorry.
-/
import Derived.Test.YbulkdtkFmtChecked
import GoSem.Claim
import GoSem.ClaimJoined
import GoSem.ClaimMapViews
import Derived.JoinedTies
import Derived.KernelRfl
namespace Go.Proofs.YbulkdtkFmt
/- THE CELL 'sum', in the pinned program and in every row, IS THE sha256 OF THE DUMP (.gsa) THAT YbulkdtkFmtProg.lean LOADS. Nothing in Lean hashes anything: it is a label: what it is worth is what the hold of that sum in a sandbox is worth. -/
noncomputable def Ybaf.pinned : Pinned := { name := "ybulkdtkfmt", sum := "ce9e531366f403414bf1dc2b2f3e3466d36086d17d3de900fc9afc843781eb0a", checked := Ybaf.checked }
namespace Rows
def none {H : Type} : Left H := { results := [], args := [] }

/-- 'nullwise.LawS0231BColumn': WHATEVER THE INPUT: true; the input reads as it did. -/
def lawS0231BColumnSpec : ChangeSpec := { name := "lawS0231BColumn", fn := fun _ => fun
  | [d1, d2, d3, d4] => { results := [.lit (.bool true)], args := [d1, d2, d3, d4] }
  | _ => none }
def lawS0231BColumnRow : OpenClaim := { program := "ybulkdtkfmt", sum := "ce9e531366f403414bf1dc2b2f3e3466d36086d17d3de900fc9afc843781eb0a", func := "example.com/nullwise/nullwise.LawS0231BColumn", spec := "lawS0231BColumn", stops := ["fmt.errorf"], inPlace := ["fmt.errorf"], apart := false }
/-- NO THEOREM (fmt's text is open here; it may be false): for the released tool's asking of the row's closed facts alone. THE STATEMENT IS 'LawS0231BColumnToldSaid' (YbulkdtkFmtCards.lean). -/
def LawS0231BColumnFormAsk : Prop := lawS0231BColumnRow.holds Ybaf.pinned (OpenSpec.ofChange lawS0231BColumnSpec)

/-- ITS FALSE NEIGHBOUR: 'it returns false'. Refute it at one input. -/
def lawS0231BColumnWrong : ChangeSpec := { name := "lawS0231BColumn", fn := fun _ => fun
  | [d1, d2, d3, d4] => { results := [.lit (.bool false)], args := [d1, d2, d3, d4] }
  | _ => none }
def LawS0231BColumnWrongFormAsk : Prop := lawS0231BColumnRow.holds Ybaf.pinned (OpenSpec.ofChange lawS0231BColumnWrong)

end Rows
end Go.Proofs.YbulkdtkFmt
