/-
  DERIVED. GIVEN WITH THE SEED: THE CARDS: each row of YbulkdswFmtRows.lean that lists a variable, with what it lists TIED to the program's text (the seventh form; the later family's looks); each row that meets fmt, with fmt's text TOLD by the authors' own Lean function (tested against real Go, not proved from fmt's source: count such statements apart). THE CARD IS WHAT COUNTS. Prove the row's statement (the work); the ties are given (YbulkdswFmtTie.lean); close each card by the builder's one call (the guide's Derived/Test/ToyasCard.lean, 'card_holds'). Laid BY PROGRAM, IN A SANDBOX (cutbox-door.mjs). By AI agents, Wed Nov 11 2026. No macro, syntax, notation, axiom, sorry.
-/
import Derived.Test.YbulkdswFmtRows
import GoSem.ClaimSeven
namespace Go.Proofs.YbulkdswFmt
namespace Rows

/-- THE TOLD CARD OF 'bson.LawS0230AElement'. -/
def lawS0230AElementCard : Claim7 := { stood := { row := lawS0230AElementRow, standIns := [], harness := (true, "4778a4e8a68c740f17289a5e1314529dd171148e5f626c11b2b4068b90887b59"), looks := true }, told := true, goes := false }
def LawS0230AElementToldSaid : Prop := Claim7.holds Ybaf.pinned (.plain (OpenSpec.ofChange lawS0230AElementSpec)) lawS0230AElementCard
/-- ITS FALSE NEIGHBOUR. Refute it at one input. -/
def LawS0230AElementToldWrongFalsely : Prop := Claim7.holds Ybaf.pinned (.plain (OpenSpec.ofChange lawS0230AElementWrong)) lawS0230AElementCard

/-- THE TOLD CARD OF 'bson.LawS0230AInt32Doc'. -/
def lawS0230AInt32DocCard : Claim7 := { stood := { row := lawS0230AInt32DocRow, standIns := [], harness := (true, "4778a4e8a68c740f17289a5e1314529dd171148e5f626c11b2b4068b90887b59"), looks := true }, told := true, goes := false }
def LawS0230AInt32DocToldSaid : Prop := Claim7.holds Ybaf.pinned (.plain (OpenSpec.ofChange lawS0230AInt32DocSpec)) lawS0230AInt32DocCard
/-- ITS FALSE NEIGHBOUR. Refute it at one input. -/
def LawS0230AInt32DocToldWrongFalsely : Prop := Claim7.holds Ybaf.pinned (.plain (OpenSpec.ofChange lawS0230AInt32DocWrong)) lawS0230AInt32DocCard

/-- THE TOLD AND TIED CARD OF 'wire.LawS0230CReads'. -/
def lawS0230CReadsCard : Claim7 := { stood := { row := lawS0230CReadsRow, standIns := [], harness := (true, "4778a4e8a68c740f17289a5e1314529dd171148e5f626c11b2b4068b90887b59"), looks := true }, told := true, laidByText := true, laidKinds := [.sentinel, .sentinel, .sentinel], laidTests := true, laidLooks := .later, goes := false }
def LawS0230CReadsToldSaid : Prop := Claim7.holds Ybaf.pinned (.plain (OpenSpec.ofChange lawS0230CReadsSpec)) lawS0230CReadsCard
/-- ITS FALSE NEIGHBOUR. Refute it at one input. -/
def LawS0230CReadsToldWrongFalsely : Prop := Claim7.holds Ybaf.pinned (.plain (OpenSpec.ofChange lawS0230CReadsWrong)) lawS0230CReadsCard
end Rows
end Go.Proofs.YbulkdswFmt
