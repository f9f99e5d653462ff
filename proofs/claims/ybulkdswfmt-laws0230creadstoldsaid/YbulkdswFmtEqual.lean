/-
  Seat b0230aF: the walk of bytes.Equal (14) at two rows with the same bytes.
-/
import Derived.Laws.BytesArg
import Derived.Test.YbulkdswFmtReads
namespace Go.Proofs.YbulkdswFmt
open Go.Extern.Stop Go.Stop Go.Extern Go.RowKit

set_option maxHeartbeats 1000000 in
theorem equal_any (g s k N c d : Nat) (xs : List Int) (w : World) (hx : xs.length = N)
    (h1 : ∀ j, j < N → w.cell? ⟨g, 0 + j, none⟩ = some (.int .u8 (xs.getD j 0))) (h2 : ∀ j, j < N → w.cell? ⟨s, k + j, none⟩ = some (.int .u8 (xs.getD j 0))) :
    Calls Ybaf.prog 14 #[.slice (some ⟨g, 0, none⟩) N c, .slice (some ⟨s, k, none⟩) N d] w fun e w' => e = .returned (.bool true) ∧ w' = w := by
  have c1 := run_convert_bytes_arg (P := Ybaf.prog) w 22 5 Ybaf.underlying22 Ybaf.underlying5 g 0 N c xs hx h1 9 Ybaf.underlying9
  have c2 := run_convert_bytes_arg (P := Ybaf.prog) w 22 5 Ybaf.underlying22 Ybaf.underlying5 s k N d xs hx h2 9 Ybaf.underlying9
  clear h1 h2 hx
  go_enter Ybaf.func14, Ybaf.ntmps14
  go_wp2
  go_ret
  exact ⟨rfl, rfl⟩
end Go.Proofs.YbulkdswFmt
