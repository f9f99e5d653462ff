/-
  NARROWER THAN 'FOR EVERY INPUT', by the rows' own cells (each row's printed sentence says how): LawS0230CReads: laid.
  DERIVED. THE GIVEN ROWS OF THIS SEAT. 3 by the template 'for every input the law returns true; each argument reads behind the call as it read before'; 0 by the template 'total and deterministic' (their statements: YbulkdswFmtTotals.lean).
  GIVEN WITH THE SEED: the statements are not yours to turn. If you find one false, say at which input.
  Laid BY PROGRAM, IN A SANDBOX (cutbox-rows.mjs): the forced cells as the released guide's own fill.sh prints them over the translation 10ba38d5ed496fd3… (all of the seat's roots in one cut). By AI agents, Wed Nov 11 2026. No macro, syntax, notation, axiom, sorry.
-/
import Derived.Test.YbulkdswFmtChecked
import GoSem.Claim
import GoSem.ClaimJoined
import GoSem.ClaimMapViews
import Derived.JoinedTies
import Derived.KernelRfl
namespace Go.Proofs.YbulkdswFmt
/- THE CELL 'sum', in the pinned program and in every row, IS THE sha256 OF THE DUMP (.gsa) THAT YbulkdswFmtProg.lean LOADS. Nothing in Lean hashes anything: it is a label: what it is worth is what the hold of that sum in a sandbox is worth. -/
noncomputable def Ybaf.pinned : Pinned := { name := "ybulkdswfmt", sum := "10ba38d5ed496fd34dde0cfaf1d3e98e06bce9999a5b70e3308af88056909ccb", checked := Ybaf.checked }
namespace Rows
def none {H : Type} : Left H := { results := [], args := [] }

/- WHAT THE LISTED PACKAGE-LEVEL VARIABLES READ AS WHEN THE CALL BEGINS. Each datum BY PROGRAM (the guide's laid-datum.mjs) off the statement by which the dump's own 'gosem.cut.vars' lays the variable. In a bare row this is a premise. The card (YbulkdswFmtCards.lean) ties it to the program's text. -/
def laid_io_ErrShortBuffer {H : Type} : DataW H := .iface "*errors.errorString" (.ptr (.agg [.lit (.string [115, 104, 111, 114, 116, 32, 98, 117, 102, 102, 101, 114])]))
def laid_io_EOF {H : Type} : DataW H := .iface "*errors.errorString" (.ptr (.agg [.lit (.string [69, 79, 70])]))
def laid_io_ErrUnexpectedEOF {H : Type} : DataW H := .iface "*errors.errorString" (.ptr (.agg [.lit (.string [117, 110, 101, 120, 112, 101, 99, 116, 101, 100, 32, 69, 79, 70])]))

/-- 'bson.LawS0230AElement': WHATEVER THE INPUT: true; the input reads as it did. -/
def lawS0230AElementSpec : ChangeSpec := { name := "lawS0230AElement", fn := fun _ => fun
  | [d1, d2, d3] => { results := [.lit (.bool true)], args := [d1, d2, d3] }
  | _ => none }
def lawS0230AElementRow : OpenClaim := { program := "ybulkdswfmt", sum := "10ba38d5ed496fd34dde0cfaf1d3e98e06bce9999a5b70e3308af88056909ccb", func := "example.com/rollcall/rollcall/internal/bson.LawS0230AElement", spec := "lawS0230AElement", stops := ["fmt.Sprintf", "fmt.errorf"], inPlace := ["internal/bytealg.IndexByteString", "fmt.Sprintf"], apart := false }
/-- NO THEOREM (fmt's text is open here; it may be false): for the released tool's asking of the row's closed facts alone. THE STATEMENT IS 'LawS0230AElementToldSaid' (YbulkdswFmtCards.lean). -/
def LawS0230AElementFormAsk : Prop := lawS0230AElementRow.holds Ybaf.pinned (OpenSpec.ofChange lawS0230AElementSpec)

/-- ITS FALSE NEIGHBOUR: 'it returns false'. Refute it at one input. -/
def lawS0230AElementWrong : ChangeSpec := { name := "lawS0230AElement", fn := fun _ => fun
  | [d1, d2, d3] => { results := [.lit (.bool false)], args := [d1, d2, d3] }
  | _ => none }
def LawS0230AElementWrongFormAsk : Prop := lawS0230AElementRow.holds Ybaf.pinned (OpenSpec.ofChange lawS0230AElementWrong)

/-- 'bson.LawS0230AInt32Doc': WHATEVER THE INPUT: true; the input reads as it did. -/
def lawS0230AInt32DocSpec : ChangeSpec := { name := "lawS0230AInt32Doc", fn := fun _ => fun
  | [d1, d2] => { results := [.lit (.bool true)], args := [d1, d2] }
  | _ => none }
def lawS0230AInt32DocRow : OpenClaim := { program := "ybulkdswfmt", sum := "10ba38d5ed496fd34dde0cfaf1d3e98e06bce9999a5b70e3308af88056909ccb", func := "example.com/rollcall/rollcall/internal/bson.LawS0230AInt32Doc", spec := "lawS0230AInt32Doc", stops := ["fmt.Sprintf", "fmt.errorf"], inPlace := ["internal/bytealg.IndexByteString", "fmt.Sprintf"], named := ["encoding/binary.LittleEndian"], apart := false }
/-- NO THEOREM (fmt's text is open here; it may be false): for the released tool's asking of the row's closed facts alone. THE STATEMENT IS 'LawS0230AInt32DocToldSaid' (YbulkdswFmtCards.lean). -/
def LawS0230AInt32DocFormAsk : Prop := lawS0230AInt32DocRow.holds Ybaf.pinned (OpenSpec.ofChange lawS0230AInt32DocSpec)

/-- ITS FALSE NEIGHBOUR: 'it returns false'. Refute it at one input. -/
def lawS0230AInt32DocWrong : ChangeSpec := { name := "lawS0230AInt32Doc", fn := fun _ => fun
  | [d1, d2] => { results := [.lit (.bool false)], args := [d1, d2] }
  | _ => none }
def LawS0230AInt32DocWrongFormAsk : Prop := lawS0230AInt32DocRow.holds Ybaf.pinned (OpenSpec.ofChange lawS0230AInt32DocWrong)

/-- 'wire.LawS0230CReads': WHATEVER THE INPUT: true; the input reads as it did. -/
def lawS0230CReadsSpec : ChangeSpec := { name := "lawS0230CReads", fn := fun _ => fun
  | [d1, d2, d3, d4, d5, d6, d7, d8, d9, d10, d11] => { results := [.lit (.bool true)], args := [d1, d2, d3, d4, d5, d6, d7, d8, d9, d10, d11] }
  | _ => none }
def lawS0230CReadsRow : OpenClaim := { program := "ybulkdswfmt", sum := "10ba38d5ed496fd34dde0cfaf1d3e98e06bce9999a5b70e3308af88056909ccb", func := "example.com/rollcall/rollcall/internal/wire.LawS0230CReads", spec := "lawS0230CReads", stops := ["fmt.Sprintf", "fmt.errorf"], inPlace := ["fmt.errorf"], unfollowed := true, recurses := true, named := ["encoding/binary.LittleEndian", "io.EOF", "io.ErrUnexpectedEOF", "io.ErrShortBuffer"], apart := false, laid := [("io.ErrShortBuffer", laid_io_ErrShortBuffer), ("io.EOF", laid_io_EOF), ("io.ErrUnexpectedEOF", laid_io_ErrUnexpectedEOF)] }
/-- NO THEOREM (fmt's text is open here; it may be false): for the released tool's asking of the row's closed facts alone. THE STATEMENT IS 'LawS0230CReadsToldSaid' (YbulkdswFmtCards.lean). -/
def LawS0230CReadsFormAsk : Prop := lawS0230CReadsRow.holds Ybaf.pinned (OpenSpec.ofChange lawS0230CReadsSpec)

/-- ITS FALSE NEIGHBOUR: 'it returns false'. Refute it at one input. -/
def lawS0230CReadsWrong : ChangeSpec := { name := "lawS0230CReads", fn := fun _ => fun
  | [d1, d2, d3, d4, d5, d6, d7, d8, d9, d10, d11] => { results := [.lit (.bool false)], args := [d1, d2, d3, d4, d5, d6, d7, d8, d9, d10, d11] }
  | _ => none }
def LawS0230CReadsWrongFormAsk : Prop := lawS0230CReadsRow.holds Ybaf.pinned (OpenSpec.ofChange lawS0230CReadsWrong)

end Rows
end Go.Proofs.YbulkdswFmt
