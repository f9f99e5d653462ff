/-
  Seat b0230aF: the walk of (*io.LimitedReader).Read (52).
-/
import Derived.Test.YbulkdswFmtReads
namespace Go.Proofs.YbulkdswFmt
open Go.RowKit

@[go_sem] theorem method41 (a : Addr) (w : World) : (method 209 41 (.pointer (some a)) "Read").run Ybaf.prog w = .ok (49, .pointer (some a)) w := by kernel_rfl
@[go_sem] theorem method76 (a : Addr) (w : World) : (method 209 76 (.pointer (some a)) "Read").run Ybaf.prog w = .ok (52, .pointer (some a)) w := by kernel_rfl
@[go_sem] theorem nil41 (a : Addr) (w : World) : (nilAhead 209 41 (.pointer (some a)) "Read").run Ybaf.prog w = .ok (some false) w := by kernel_rfl
@[go_sem] theorem nil76 (a : Addr) (w : World) : (nilAhead 209 76 (.pointer (some a)) "Read").run Ybaf.prog w = .ok (some false) w := by kernel_rfl

theorem eof_keeps {w w1 : World} {lb : Nat} {x y : Value} (hl : w.heap[lb]? = some (.cells #[x, y] 78 (0, 0))) (hk : Kept [] w w1) : Kept [] w (w1.setCell ⟨lb, 1, none⟩ y) := by
  have h1 : w1.heap[lb]? = some (.cells #[x, y] 78 (0, 0)) := (hk.block lb (lt_box hl) (by simp)).trans hl
  refine ⟨hk.os, hk.tape, hk.output, by simp [World.setCell]; exact hk.size, fun i hi hn => ?_⟩
  by_cases e : i = lb
  · subst e
    rw [set_block h1, hl]
    rfl
  · rw [Below.heap_setCell _ _ _ _ e]
    exact hk.block i hi hn

set_option maxHeartbeats 1000000 in
theorem lim_zero (lb rb : Nat) (ev : Value) (w : World) (hl : w.heap[lb]? = some (.cells #[.iface 41 (.pointer (some ⟨rb, 0, none⟩)), .int .i64 0] 78 (0, 0)))
    (hev : w.cell? ⟨1, 0, none⟩ = some ev) (b : Option Addr) (pl pc : Nat) :
    Calls Ybaf.prog 52 #[.pointer (some ⟨lb, 0, none⟩), .slice b pl pc] w fun e w' => e = .returned (.tuple #[.int .i64 0, ev]) ∧ Kept [] w w' := by
  have c1 : w.cell? ⟨lb, 1, none⟩ = some (.int .i64 0) := by rw [box_cell hl]; rfl
  clear hl
  go_enter Ybaf.func52, Ybaf.ntmps52
  go_wp2
  go_quiet (fail)
  go_wp2
  go_ret2
  exact ⟨rfl, (Kept.refl _ _).drewN' _⟩

set_option maxHeartbeats 1000000 in
theorem lim_eof (lb rb sb n c k N : Nat) (ev : Value) (w : World) (hl : w.heap[lb]? = some (.cells #[.iface 41 (.pointer (some ⟨rb, 0, none⟩)), .int .i64 N] 78 (0, 0)))
    (hbox : w.heap[rb]? = some (.cells #[.slice (some ⟨sb, 0, none⟩) n c, .int .i64 k] 43 (0, 0))) (hr : n ≤ k) (hN : 0 < N) (hN2 : N ≤ 48000000) (hev : w.cell? ⟨1, 0, none⟩ = some ev) (b : Option Addr) (pl pc : Nat) (hp : pl ≤ pc) :
    Calls Ybaf.prog 52 #[.pointer (some ⟨lb, 0, none⟩), .slice b pl pc] w fun e w' => e = .returned (.tuple #[.int .i64 0, ev]) ∧ Kept [] w w' := by
  have c0 : w.cell? ⟨lb, 0, none⟩ = some (.iface 41 (.pointer (some ⟨rb, 0, none⟩))) := by rw [box_cell hl]; rfl
  have c1 : w.cell? ⟨lb, 1, none⟩ = some (.int .i64 N) := by rw [box_cell hl]; rfl
  have hn0 : ¬ N = 0 := by omega
  have HL := hide' (hl)
  have HR := hide' (fun p => read_eof rb sb n c k p ev w hbox hr hev)
  clear hl hbox hev
  by_cases hNp : N < pl
  · have hNc : N ≤ pc := by omega
    go_enter Ybaf.func52, Ybaf.ntmps52
    go_wp2_with fail
    refine (HR.out _).mono ?_
    rintro e w1 ⟨rfl, hk⟩
    have l1 : w1.heap[lb]? = _ := (hk.block lb (lt_box HL.out) (by simp)).trans HL.out
    have d1 := box_cell l1 1
    have f1 := free_box (i := 1) l1
    clear l1
    go_wp2
    go_ret2
    exact ⟨rfl, eof_keeps HL.out hk⟩
  · go_enter Ybaf.func52, Ybaf.ntmps52
    go_wp2_with fail
    refine (HR.out _).mono ?_
    rintro e w1 ⟨rfl, hk⟩
    have l1 : w1.heap[lb]? = _ := (hk.block lb (lt_box HL.out) (by simp)).trans HL.out
    have d1 := box_cell l1 1
    have f1 := free_box (i := 1) l1
    clear l1
    go_wp2
    go_ret2
    exact ⟨rfl, eof_keeps HL.out hk⟩

set_option maxHeartbeats 1000000 in
theorem lim_some (lb rb sb n c k N pb po pl pc T : Nat) (zs cur : List Value) (w : World) (hl : w.heap[lb]? = some (.cells #[.iface 41 (.pointer (some ⟨rb, 0, none⟩)), .int .i64 N] 78 (0, 0)))
    (hbox : w.heap[rb]? = some (.cells #[.slice (some ⟨sb, 0, none⟩) n c, .int .i64 k] 43 (0, 0))) (hk : k < n) (hn : n ≤ c) (hc : c ≤ 2000) (hN : 0 < N) (hN2 : N ≤ 48000000)
    (hz : w.heap[sb]? = some (.cells zs.toArray 5 (0, 0))) (hone : ∀ u ∈ zs, u.oneCell' = true) (hzl : zs.length = c) (hp : w.heap[pb]? = some (.cells cur.toArray T (0, 0))) (hfit : po + pl ≤ cur.length) (hpc : pl ≤ pc) (h1 : rb ≠ pb) (h2 : lb ≠ pb) (h3 : lb ≠ rb) (m : Nat) (hm : m = min (min (n - k) N) pl) :
    Calls Ybaf.prog 52 #[.pointer (some ⟨lb, 0, none⟩), .slice (some ⟨pb, po, none⟩) pl pc] w fun e w' => e = .returned (.tuple #[.int .i64 m, .nilIface]) ∧
      w'.heap[lb]? = some (.cells #[.iface 41 (.pointer (some ⟨rb, 0, none⟩)), .int .i64 ((N - m : Nat) : Int)] 78 (0, 0)) ∧
      w'.heap[rb]? = some (.cells #[.slice (some ⟨sb, 0, none⟩) n c, .int .i64 ((k + m : Nat) : Int)] 43 (0, 0)) ∧ w'.heap[pb]? = some (.cells (splice cur po ((zs.drop k).take m)).toArray T (0, 0)) ∧ Kept [lb, rb, pb] w w' := by
  have c0 : w.cell? ⟨lb, 0, none⟩ = some (.iface 41 (.pointer (some ⟨rb, 0, none⟩))) := by rw [box_cell hl]; rfl
  have c1 : w.cell? ⟨lb, 1, none⟩ = some (.int .i64 N) := by rw [box_cell hl]; rfl
  have hn0 : ¬ N = 0 := by omega
  have hmN : m ≤ N := by omega
  have hNi : (N : Int) ≤ 48000000 := by omega
  have hmi : (m : Int) ≤ (N : Int) := by omega
  have eNm : (N : Int) - (m : Int) = ((N - m : Nat) : Int) := by omega
  have EN := hide' (eNm)
  have HL := hide' (hl)
  have HR := hide' (fun pl pc hfit hm => read_some rb sb n c k pb po pl pc T zs cur w hbox hk hn hc hz hone hzl hp hfit h1 m hm)
  have HE : ∀ w1 : World, w1.heap[rb]? = some (.cells #[.slice (some ⟨sb, 0, none⟩) n c, .int .i64 ((k + m : Nat) : Int)] 43 (0, 0)) → w1.heap[pb]? = some (.cells (splice cur po ((zs.drop k).take m)).toArray T (0, 0)) → Kept [rb, pb] w w1 →
      (w1.setCell ⟨lb, 1, none⟩ (.int .i64 ((N : Int) - (m : Int)))).heap[lb]? = some (.cells #[.iface 41 (.pointer (some ⟨rb, 0, none⟩)), .int .i64 ((N - m : Nat) : Int)] 78 (0, 0)) ∧
      (w1.setCell ⟨lb, 1, none⟩ (.int .i64 ((N : Int) - (m : Int)))).heap[rb]? = some (.cells #[.slice (some ⟨sb, 0, none⟩) n c, .int .i64 ((k + m : Nat) : Int)] 43 (0, 0)) ∧ (w1.setCell ⟨lb, 1, none⟩ (.int .i64 ((N : Int) - (m : Int)))).heap[pb]? = some (.cells (splice cur po ((zs.drop k).take m)).toArray T (0, 0)) ∧ Kept [lb, rb, pb] w (w1.setCell ⟨lb, 1, none⟩ (.int .i64 ((N : Int) - (m : Int)))) := by
    intro w1 hr1 hp1 hk1
    have l1 : w1.heap[lb]? = _ := (hk1.block lb (lt_box hl) (by simp [h2, h3])).trans hl
    refine ⟨?_, ?_, ?_, ?_⟩
    · rw [set_block l1, ← eNm]
      rfl
    · rw [Below.heap_setCell _ _ _ _ (fun e => h3 e.symm)]
      exact hr1
    · rw [Below.heap_setCell _ _ _ _ (fun e => h2 e.symm)]
      exact hp1
    · exact (((Kept.refl _ _).then hk1 (by simp)).setCell _ _ (by simp))
  have HE' := hide' (HE)
  clear hl hbox hz hone hp HE eNm
  by_cases hNp : N < pl
  · have hNc : N ≤ pc := by omega
    have hmm : m = Nat.min (n - k) N := by show m = min (n - k) N; omega
    have hff : po + N ≤ cur.length := by omega
    have HR2 := hide' (HR.out _ pc hff hmm)
    clear hm hmm HR hff
    go_enter Ybaf.func52, Ybaf.ntmps52
    go_wp2_with fail
    refine HR2.out.mono ?_
    rintro e w1 ⟨rfl, hr1, hp1, hk1⟩
    have l1 : w1.heap[lb]? = _ := (hk1.block lb (lt_box HL.out) (by simp [h2, h3])).trans HL.out
    have d1 := box_cell l1 1
    have f1 := free_box (i := 1) l1
    have hE := hide' (HE'.out w1 hr1 hp1 hk1)
    clear l1 hr1 hp1 hk1 c0 c1 HR2 HE' EN
    go_wp2
    go_ret2
    exact ⟨rfl, hE.out⟩
  · have hmm : m = Nat.min (n - k) pl := by show m = min (n - k) pl; omega
    have HR2 := hide' (HR.out _ pc hfit hmm)
    clear hm hmm HR
    go_enter Ybaf.func52, Ybaf.ntmps52
    go_wp2_with fail
    refine HR2.out.mono ?_
    rintro e w1 ⟨rfl, hr1, hp1, hk1⟩
    have l1 : w1.heap[lb]? = _ := (hk1.block lb (lt_box HL.out) (by simp [h2, h3])).trans HL.out
    have d1 := box_cell l1 1
    have f1 := free_box (i := 1) l1
    have hE := hide' (HE'.out w1 hr1 hp1 hk1)
    clear l1 hr1 hp1 hk1 c0 c1 HR2 HE' EN
    go_wp2
    go_ret2
    exact ⟨rfl, hE.out⟩
end Go.Proofs.YbulkdswFmt
