/-
  Seat b0236a: the log's entries: read, compared.
-/
import Derived.Test.YbulkdwcAt
import Derived.Laws.StructEq
namespace Go.Proofs.Ybulkdwc
open Go.RowKit

theorem neq81 (x : Int) (s : ByteArray) (w : World) : (binOp .neq 81 (.agg #[.int .u8 x, .string s]) (.agg #[.int .u8 x, .string s])).run Yba.prog w = .ok (.bool false) w := by
  simp [go_sem, Yba.underlying81]
theorem guard81 : Yba.prog.eqGuardType Yba.prog.depth 81 = false := by kernel_rfl

theorem flat_at : ∀ (L : List En) (j : Nat) (h : j < L.length), (L.flatMap encEn)[j * 2]? = some (.int .u8 (L[j].1)) ∧ (L.flatMap encEn)[j * 2 + 1]? = some (.string (L[j].2))
  | [], j, h => absurd h (by simp)
  | e :: L, 0, _ => by simp [encEn]
  | e :: L, j + 1, h => by
    have := flat_at L j (by simpa using h)
    have e1 : (j + 1) * 2 = j * 2 + 2 := by omega
    have e2 : (j + 1) * 2 + 1 = j * 2 + 1 + 2 := by omega
    rw [e1]
    simpa [encEn, List.flatMap_cons] using this

/-- what a row of entries reads -/
theorem own_read {B : Nat} {w : World} {v : Value} {L : List En} (h : w.ownsRow B 81 2 v L.length (L.flatMap encEn)) :
    ∃ (a : Option Addr) (cap : Nat), v = .slice a L.length cap ∧ ∀ j (hj : j < L.length), ∃ g, a = some ⟨g, 0, none⟩ ∧ w.cell? ⟨g, j * 2, none⟩ = some (.int .u8 (L[j].1)) ∧ w.cell? ⟨g, j * 2 + 1, none⟩ = some (.string (L[j].2)) := by
  rcases h.2 with ⟨rfl, hn⟩ | ⟨g, cap, cur, rfl, _, hg, h1, h2, h3, h4⟩
  · exact ⟨none, 0, by rw [hn], fun j hj => by omega⟩
  · refine ⟨_, cap, rfl, fun j hj => ⟨g, rfl, ?_⟩⟩
    have hf := flat_at L j hj
    rw [← h4, List.getElem?_take_of_lt (by omega), List.getElem?_take_of_lt (by omega)] at hf
    rw [box_cell hg, box_cell hg]
    simpa using hf
end Go.Proofs.Ybulkdwc
