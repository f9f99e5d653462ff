/-
  DERIVED. GIVEN WITH THE SEED: THE CARDS: each row of YbulkdtkFmtRows.lean that lists a variable, with what it lists TIED to the program's text (the seventh form; the later family's looks); each row that meets fmt, with fmt's text TOLD by the authors' own Lean function (tested against real Go, not proved from fmt's source: count such statements apart). THE CARD IS WHAT COUNTS. Prove the row's statement (the work); the ties are given (YbulkdtkFmtTie.lean); close each card by the builder's one call (the guide's Derived/Test/ToyasCard.lean, 'card_holds'). Laid BY PROGRAM, IN A SANDBOX (cutbox-door.mjs). By AI agents, Wed Nov 11 2026. No macro, syntax, notation, axiom, sorry.
-/
import Derived.Test.YbulkdtkFmtRows
import GoSem.ClaimSeven
namespace Go.Proofs.YbulkdtkFmt
namespace Rows

/-- THE TOLD CARD OF 'nullwise.LawS0231BColumn'. -/
def lawS0231BColumnCard : Claim7 := { stood := { row := lawS0231BColumnRow, standIns := [], harness := (true, "768287bb088f3e1ae99036d9f108d2c6d93d0073d2489686a53c645c38109b53"), looks := true }, told := true, goes := false }
def LawS0231BColumnToldSaid : Prop := Claim7.holds Ybaf.pinned (.plain (OpenSpec.ofChange lawS0231BColumnSpec)) lawS0231BColumnCard
/-- ITS FALSE NEIGHBOUR. Refute it at one input. -/
def LawS0231BColumnToldWrongFalsely : Prop := Claim7.holds Ybaf.pinned (.plain (OpenSpec.ofChange lawS0231BColumnWrong)) lawS0231BColumnCard
end Rows
end Go.Proofs.YbulkdtkFmt
