/-
  Seat b0230a: steps at a server's twenty-six cells, none of them written out.
-/
import Derived.Test.YbulkdswTvc
import Derived.Laws.Tables
namespace Go.Proofs.Ybulkdsw
open Go.RowKit Go.Shelf Go.Lib Go.Sort

theorem run_load43 (w : World) (ad : Addr) (cs : Array Value) (h : (loadCellsFrom ad 0 26 #[]).run Yba.prog w = .ok cs w) : (Instr.loadAt 43 (.pointer (some ad))).run Yba.prog w = .ok (.agg cs) w := by
  simp only [Instr.loadAt, Instr.sureAddr, loadVar, Sem.run_bind, Sem.run_pure, Result.andThen_ok, loadCells, Yba.isAgg43, Yba.sizeOf43, h, if_true]

/-- a load of a server -/
theorem load43 {ops : Array Oper} {rest : List Oper} {o : Oper} {a : Act} {w : World} {Q : Exit → Act → World → Prop} (hg : o.guard = none) (p : Operand) (ho : o.op = .load 43 p)
    (ad : Addr) (cs : Array Value) (hp : a.eval p = .pointer (some ad)) (hl : (loadCellsFrom ad 0 26 #[]).run Yba.prog w = .ok cs w)
    (h : wpList Yba.prog ops Q rest (a.put o.dst (.agg cs)) w) : wpList Yba.prog ops Q (o :: rest) a w := by
  refine wpList_plain hg fun K hK => ?_
  unfold Oper.wp execOp
  simp only [ho, hp, Sem.run_bind, run_load43 w ad cs hl, Result.andThen_ok]
  exact hK _ _ h

/-- the same where the operation is guarded and wanted -/
theorem load43w {ops : Array Oper} {rest : List Oper} {o : Oper} {a : Act} {w : World} {Q : Exit → Act → World → Prop} (p : Operand) (ho : o.op = .load 43 p) (hw : Region.wanted o (yielded ops a.tmps) = true)
    (ad : Addr) (cs : Array Value) (hp : a.eval p = .pointer (some ad)) (hl : (loadCellsFrom ad 0 26 #[]).run Yba.prog w = .ok cs w)
    (h : wpList Yba.prog ops Q rest (a.put o.dst (.agg cs)) w) : wpList Yba.prog ops Q (o :: rest) a w := by
  refine wpList_step fun K hK => ?_
  rw [if_pos hw]
  unfold Oper.wp execOp
  simp only [ho, hp, Sem.run_bind, run_load43 w ad cs hl, Result.andThen_ok]
  exact hK _ _ h

theorem info43 : (Yba.prog.info? 43).map (·.size) = some 26 := by kernel_rfl
theorem setRow_new (w : World) (Z cs : Array Value) (t : TypeId) : (w.alloc (.cells Z t)).setRow w.heap.size cs = w.alloc (.cells cs t) := by
  unfold World.setRow World.alloc
  simp only [World.mk.injEq, and_self, and_true]
  apply Array.ext
  · simp
  · intro i h1 h2
    simp only [Array.getElem_modify, Array.getElem_push]
    by_cases h : i < w.heap.size
    · have : ¬ w.heap.size = i := by omega
      simp [h, this]
    · have : w.heap.size = i := by simp at h2; omega
      simp [this]

/-- a server laid into a block of its own, just made -/
theorem store43 {ops : Array Oper} {rest : List Oper} {o : Oper} {a : Act} {w0 : World} {Z : Array Value} {Q : Exit → Act → World → Prop} (hg : o.guard = none) (x y : Operand) (ho : o.op = .store 43 x y)
    (cs : Array Value) (hx : a.eval x = .pointer (some ⟨w0.heap.size, 0, none⟩)) (hy : a.eval y = .agg cs) (hZ : Z.size = 26) (hc : cs.size = 26) (h1 : cs.all (·.oneCell') = true)
    (h : wpList Yba.prog ops Q rest (a.put o.dst undef) (w0.alloc (.cells cs 43))) : wpList Yba.prog ops Q (o :: rest) a (w0.alloc (.cells Z 43)) := by
  refine wpList_store_row hg 43 x y ho w0.heap.size cs hx hy 43 Z (heap_alloc_new _ _) (by rw [info43, hc]) (by rw [hZ, hc]) h1 ?_
  rw [setRow_new]
  exact h
theorem encE_size (x : E) : (encE x).toArray.size = 26 := rfl
theorem encE_one (x : E) : (encE x).toArray.all (·.oneCell') = true := by
  rw [List.all_toArray']
  · exact List.all_eq_true.2 (sd_one _ _ _ _)
  · rfl
end Go.Proofs.Ybulkdsw
