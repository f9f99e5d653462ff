/-
  Seat b0230a: '==' and '!=' at two process ids ([12]byte).
-/
import Derived.Test.YbulkdswBase
import Derived.ChangeKeysEq
namespace Go.Proofs.Ybulkdsw
open Go.RowKit Go.Shelf Go.Lib Go.Sort

abbrev pid (p : Int) : Array Value := #[.int .u8 p, .int .u8 0, .int .u8 0, .int .u8 0, .int .u8 0, .int .u8 0, .int .u8 0, .int .u8 0, .int .u8 0, .int .u8 0, .int .u8 0, .int .u8 0]
theorem cells5 : Yba.prog.cellsOf 5 = 1 := by kernel_rfl
theorem info5 : (Yba.prog.info? 5).map (fun i => (i.zero, i.size, i.bytes)) = some (some (.int .u8 0), 1, 1) := by kernel_rfl
theorem part5 (p : Int) (i : Nat) (hi : i < 12) (w : World) : (part 5 (pid p) i).run Yba.prog w = .ok (.int .u8 (if i = 0 then p else 0)) w := by
  have h : i = 0 ∨ i = 1 ∨ i = 2 ∨ i = 3 ∨ i = 4 ∨ i = 5 ∨ i = 6 ∨ i = 7 ∨ i = 8 ∨ i = 9 ∨ i = 10 ∨ i = 11 := by omega
  rcases h with rfl | rfl | rfl | rfl | rfl | rfl | rfl | rfl | rfl | rfl | rfl | rfl <;> simp [part, pid, Yba.isAgg5]
theorem range12 : List.range 12 = [0, 1, 2, 3, 4, 5, 6, 7, 8, 9, 10, 11] := rfl
theorem arr_equal (p q : Int) (d : Nat) (w : World) : (Op.equalIn (d + 2) 55 (.agg (pid p)) (.agg (pid q))).run Yba.prog w = .ok (p == q) w := by
  obtain ⟨i0, hi, _, _, _⟩ := info_parts info5
  rw [run_equalIn_array w (d + 1) (pid p) (pid q) Yba.underlying55 hi, cells5, range12]
  by_cases h : p = q
  · subst h
    simp [Op.eqItems, part5, run_equalIn_int _ _ 5 .u8 .u8 _ _ Yba.underlying5]
  · simp [Op.eqItems, part5, run_equalIn_int _ _ 5 .u8 .u8 _ _ Yba.underlying5, h]
theorem arr_neq (p q : Int) (w : World) : (binOp .neq 55 (.agg (pid p)) (.agg (pid q))).run Yba.prog w = .ok (.bool (p != q)) w := by
  simp only [binOp]
  simp [Op.equal, Op.maxDepth, arr_equal p q 9998 w]
  show (p == q) = !(!(p == q))
  simp
theorem arr_eql (p q : Int) (w : World) : (binOp .eql 55 (.agg (pid p)) (.agg (pid q))).run Yba.prog w = .ok (.bool (p == q)) w := by
  simp only [binOp]
  simp [Op.equal, Op.maxDepth, arr_equal p q 9998 w]
end Go.Proofs.Ybulkdsw
