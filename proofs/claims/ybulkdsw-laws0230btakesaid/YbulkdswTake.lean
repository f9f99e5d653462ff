/-
  Seat b0230a: the walk of TopologyDescription.take (9).
-/
import Derived.Test.YbulkdswFind
import Derived.Laws.Rows
import Derived.Deep.CutRange
namespace Go.Proofs.Ybulkdsw
open Go.RowKit Go.Shelf Go.Lib Go.Sort

abbrev nameX : ByteArray := ⟨#[120]⟩
abbrev srv (y : Fin 6) (t : Option Addr) (g : Int) : Array Value := (sdCells (addrS y) nameX t g).toArray
theorem srv_all (y : Fin 6) (t : Option Addr) (g : Int) : (srv y t g).all (·.oneCell') = true := by
  rw [List.all_toArray']
  · exact List.all_eq_true.2 (sd_one _ _ _ _)
  · rfl
abbrev zero43 : Array Value := (sdCells ⟨#[]⟩ ⟨#[]⟩ none 0).toArray

/-- the three blocks of take -/
structure TK (w W : World) (ty : Int) (lb n cap : Nat) (s : Array Value) : Prop where
  top : W.heap[w.heap.size]? = some (.cells #[.int .i64 ty, .string ⟨#[]⟩, .slice (some ⟨lb, 0, none⟩) n cap, .nilIface, .pointer none, .pointer none, .pointer none] 51 (0, 0))
  srv : W.heap[w.heap.size + 1]? = some (.cells s 43 (0, 0))
  res : W.heap[w.heap.size + 1 + 1]? = some (.cells zero43 43 (0, 0))
  kept : Kept [] w W
theorem tk_of (w : World) (ty : Int) (lb n cap : Nat) (s : Array Value) : ∃ W, W = ((w.alloc (.cells #[.int .i64 ty, .string ⟨#[]⟩, .slice (some ⟨lb, 0, none⟩) n cap, .nilIface, .pointer none, .pointer none, .pointer none] 51)).alloc (.cells s 43)).alloc
    (.cells #[.string ⟨#[]⟩, .int .i64 0, .string ⟨#[]⟩, .pointer none, .pointer none, .string ⟨#[]⟩, .string ⟨#[]⟩, .slice none 0 0, .slice none 0 0, .slice none 0 0, .map none, .int .i64 0, .int .i64 0, .pointer none, .pointer none,
    .int .u64 0, .int .i64 0, .pointer none, .pointer none, .int .i64 0, .int .i64 0, .int .u64 0, .int .i64 0, .pointer none, .nilIface, .int .u64 0] 43) ∧ TK w W ty lb n cap s := by
  refine ⟨_, rfl, ?_, ?_, ?_, (((Kept.refl _ _).alloc _).alloc _).alloc _⟩
  · rw [Below.heap_alloc _ _ _ (by simp; omega), Below.heap_alloc _ _ _ (by simp)]
    exact heap_alloc_new _ _
  · rw [Below.heap_alloc _ _ _ (by simp)]
    have := heap_alloc_new (w.alloc (.cells #[.int .i64 ty, .string ⟨#[]⟩, .slice (some ⟨lb, 0, none⟩) n cap, .nilIface, .pointer none, .pointer none, .pointer none] 51)) (.cells s 43)
    simpa using this
  · have e : ((w.alloc (.cells #[.int .i64 ty, .string ⟨#[]⟩, .slice (some ⟨lb, 0, none⟩) n cap, .nilIface, .pointer none, .pointer none, .pointer none] 51)).alloc (.cells s 43)).heap.size = w.heap.size + 1 + 1 := by simp
    rw [← e]
    exact heap_alloc_new _ _
theorem TK.then {w W W' : World} {ty : Int} {lb n cap : Nat} {s : Array Value} (h : TK w W ty lb n cap s) (k : Kept [] W W') : TK w W' ty lb n cap s :=
  ⟨(k.block _ (lt_box h.top) (by simp)).trans h.top, (k.block _ (lt_box h.srv) (by simp)).trans h.srv, (k.block _ (lt_box h.res) (by simp)).trans h.res, h.kept.then k (by simp)⟩

theorem tk_set1 {w W : World} {ty : Int} {lb n cap : Nat} {y : Fin 6} {t2 : Option Addr} {g : Int} (h : TK w W ty lb n cap (srv y t2 g)) (v : Int) :
    ∃ W', W' = W.setCell ⟨w.heap.size + 1, 25, none⟩ (.int .u64 v) ∧ W'.heap[w.heap.size + 1]? = some (.cells (srv y t2 v) 43 (0, 0)) ∧ W'.heap[w.heap.size + 1 + 1]? = some (.cells zero43 43 (0, 0)) ∧ Kept [] w W' :=
  ⟨_, rfl, set_block h.srv, (Below.heap_setCell _ _ _ _ (by simp)).trans h.res, h.kept.setCell _ _ (by simp)⟩
theorem tk_set2 {w W : World} {ty : Int} {lb n cap : Nat} {y : Fin 6} {t2 : Option Addr} {g : Int} (h : TK w W ty lb n cap (srv y t2 g)) (u v : Int) :
    ∃ W', W' = (W.setCell ⟨w.heap.size + 1, 25, none⟩ (.int .u64 u)).setCell ⟨w.heap.size + 1, 25, none⟩ (.int .u64 v) ∧ W'.heap[w.heap.size + 1]? = some (.cells (srv y t2 v) 43 (0, 0)) ∧ W'.heap[w.heap.size + 1 + 1]? = some (.cells zero43 43 (0, 0)) ∧ Kept [] w W' := by
  obtain ⟨W1, rfl, a, b, c⟩ := tk_set1 h u
  exact ⟨_, rfl, set_block a, (Below.heap_setCell _ _ _ _ (by simp)).trans b, c.setCell _ _ (by simp)⟩

theorem row_load {w : World} {g : Nat} {cs : Array Value} (h : w.heap[g]? = some (.cells cs 43 (0, 0))) (hc : cs.size = 26) : (loadCellsFrom ⟨g, 0, none⟩ 0 26 #[]).run Yba.prog w = .ok cs w := by
  have := run_loadCellsFrom_list Yba.prog w ⟨g, 0, none⟩ cs.toList 26 (by simpa using hc) (fun j v hj => by
    rw [WideShapes.add_plain, Nat.zero_add, box_cell h]
    simpa using hj)
  simpa using this

theorem res9 {tmps : Array Value} {w : World} {b : Nat} {cs : Array Value} {v7 v8 : Value} (h6 : tmps.getD 6 undef = .pointer (some ⟨b, 0, none⟩)) (h7 : tmps.getD 7 undef = v7) (h8 : tmps.getD 8 undef = v8) (hb : w.heap[b]? = some (.cells cs 43 (0, 0))) (hc : cs.size = 26) :
    (results Yba.f9 tmps).run Yba.prog w = .ok (.tuple #[.agg cs, v7, v8]) w := by
  have hl : (loadVar 43 ⟨b, 0, none⟩).run Yba.prog w = .ok (.agg cs) w := run_loadVar_row w b 43 43 cs (0, 0) _ hb Yba.underlying43 rfl (by rw [info43, hc])
  simp only [Array.getD_eq_getD_getElem?] at h6 h7 h8
  simp [results, Yba.results9, h6, h7, h8, hl, asAddr]

theorem TVAt.kept {w w1 w2 : World} {t : Option Addr} {x : Option (Int × Int)} (h : TVAt w t x) (k : Kept [] w w1) (k2 : Kept [] w1 w2) : TVAt w2 t x := by
  match x, h with
  | none, h => exact h
  | some (p, c), ⟨b, e, hb⟩ =>
    refine ⟨b, e, ?_⟩
    have l := lt_box hb
    rw [k2.block b (Nat.lt_of_lt_of_le l k.size) (by simp), k.block b l (by simp)]
    exact hb

def TKOut (d : Array E) (tvs : Nat → Option (Int × Int)) (x2 : Option (Int × Int)) (ty : Int) (y : Fin 6) (t2 : Option Addr) (g : Int) (cl : Bool) (e : Ending) : Prop :=
  ∃ i : Nat, Found d y i ∧
    ((¬ (i < d.size ∧ d[i]!.1 = y ∧ ty ≠ 5 ∧ ¬ 0 < tvCmp (tvs i) x2) ∧ e = .returned (.tuple #[.agg (srv y t2 g), .int .i64 i, .bool false])) ∨
     ((i < d.size ∧ d[i]!.1 = y ∧ ty ≠ 5 ∧ ¬ 0 < tvCmp (tvs i) x2) ∧ e = .returned (.tuple #[.agg (srv y t2 (if cl then IntKind.u64.wrap (d[i]!.2.2 + 1) else d[i]!.2.2)), .int .i64 i, .bool true])))

set_option maxRecDepth 100000 in
set_option maxHeartbeats 4000000 in
theorem take_any (ty : Int) (lb cap : Nat) (d : Array E) (tvs : Nat → Option (Int × Int)) (x2 : Option (Int × Int)) (y : Fin 6) (t2 : Option Addr) (g : Int) (cl : Bool) (w : World) (hR : Row w lb d) (hl : lb < w.heap.size) (hS : Strict d) (hn : d.size ≤ 5)
    (ht : ∀ j, j < d.size → TVAt w d[j]!.2.1 (tvs j)) (ht2 : TVAt w t2 x2) :
    Calls Yba.prog 9 #[topo ty lb d.size cap, .agg (srv y t2 g), .bool cl] w fun e w' => TKOut d tvs x2 ty y t2 g cl e ∧ Kept [] w w' := by
  have HI := hide' (fun (W : World) (hW : Kept [] w W) => index_any ty lb cap d y W (hR.kept hW hl (by simp)) (Nat.lt_of_lt_of_le hl hW.size) hS hn)
  have HR := hide' hR
  have HT := hide' ht
  have HT2 := hide' ht2
  clear hR hS ht ht2
  go_enter Yba.func9, Yba.ntmps9
  go_upto_region 1 with fail
  obtain ⟨W, eW, hW⟩ := tk_of w ty lb d.size cap (srv y t2 g)
  rw [← eW]
  clear eW
  have f0 := fun i => box_cell hW.top i
  have s0 : W.cell? ⟨w.heap.size + 1, 0, none⟩ = some (.string (addrS y)) := (box_cell hW.srv 0).trans rfl
  have TW := hide' hW
  have l0 := lt_box hW.top
  have l1 := lt_box hW.srv
  clear hW
  go_wp2_with fail
  refine Calls.mono (HI.out W TW.out.kept) ?_
  rintro e w1 ⟨⟨i, rfl, hf⟩, k1⟩
  have T1 := hide' (TW.out.then k1)
  have HF := hide' hf
  have f1 := fun i => box_cell T1.out.top i
  have s14 : w1.cell? ⟨w.heap.size + 1, 14, none⟩ = some (.pointer t2) := (box_cell T1.out.srv 14).trans rfl
  have m0 := lt_box T1.out.top
  have m1 := lt_box T1.out.srv
  clear f0 s0 TW l0 l1 hf k1 HI
  obtain ⟨n, hnn⟩ : ∃ n, d.size = n := ⟨_, rfl⟩
  have HN := hide' hnn
  rw [hnn] at f1 ⊢
  clear hnn
  by_cases hfd : i < n ∧ d[i]!.1 = y
  · rw [decide_eq_true hfd]
    obtain ⟨hin, hky⟩ := hfd
    obtain ⟨x, hx⟩ : ∃ x, d[i]! = x := ⟨_, rfl⟩
    have HX := hide' hx
    rw [hx] at hky
    have HY := hide' hky
    have hinz : (i : Int) < (n : Int) := by omega
    by_cases hty : ty = 5
    · subst hty
      clear hx hky
      go_upto_region 2 with fail
      go_quiet (fail)
      have T2 := hide' (T1.out.then (Kept.drewN [] w1 nq))
      have ld := row_load T2.out.srv rfl
      have st := T2.out.res
      go_wp2_with (first | (refine load43 rfl _ rfl _ _ rfl ld ?_) | (refine wpList_store_row rfl 43 _ _ rfl _ _ rfl rfl 43 zero43 st info43 rfl (srv_all y t2 g) ?_))
      refine bodyPost_ret (res9 rfl rfl rfl (setRow_heap _ _ _ _ _ _ st) rfl) rfl ⟨⟨i, HF.out, .inl ⟨fun h => h.2.2.1 rfl, rfl⟩⟩, T2.out.kept.setRow _ _ (by omega)⟩
    · have R1 := HR.out.kept T1.out.kept hl (by simp)
      have hid : i < d.size := by rw [HN.out]; exact hin
      have x14 : w1.cell? ⟨lb, i * 26 + 14, none⟩ = some (.pointer x.2.1) := (R1.cellc hid hx 14 (by omega)).trans rfl
      have x25 : w1.cell? ⟨lb, i * 26 + 25, none⟩ = some (.int .u64 x.2.2) := (R1.cellc hid hx 25 (by omega)).trans rfl
      have hlb1 : lb < w1.heap.size := Nat.lt_of_lt_of_le hl T1.out.kept.size
      have HCT := hide' (fun (m : Nat) => tvcmp_any x.2.1 t2 (tvs i) x2 (w1.drewN m) (by rw [← hx]; exact (HT.out i hid).kept T1.out.kept (Kept.drewN [] w1 m)) (HT2.out.kept T1.out.kept (Kept.drewN [] w1 m)))
      obtain ⟨c, hc⟩ : ∃ c, tvCmp (tvs i) x2 = c := ⟨_, rfl⟩
      rw [hc] at HCT
      have HCC := hide' hc
      clear hx hky R1 hc hid
      have htyb : (ty == 5) = false := by simpa using hty
      go_upto_region 2 with fail
      go_quiet (first | (go_at_call 14; exact Calls.quiet_of (HCT.out _)))
      have T2 := hide' (T1.out.then (Kept.drewN [] w1 nq))
      by_cases hcp : 0 < c
      · have ld := row_load T2.out.srv rfl
        have st := T2.out.res
        go_wp2_with (first | (refine load43 rfl _ rfl _ _ rfl ld ?_) | (refine wpList_store_row rfl 43 _ _ rfl _ _ rfl rfl 43 zero43 st info43 rfl (srv_all y t2 g) ?_))
        refine bodyPost_ret (res9 rfl rfl rfl (setRow_heap _ _ _ _ _ _ st) rfl) rfl ⟨⟨i, HF.out, .inl ⟨fun h => h.2.2.2 (by rw [HCC.out]; exact hcp), rfl⟩⟩, T2.out.kept.setRow _ _ (by omega)⟩
      · have s25 : w1.cell? ⟨w.heap.size + 1, 25, none⟩ = some (.int .u64 g) := (box_cell T1.out.srv 25).trans rfl
        have fz := fun i => free_box (i := i) T1.out.srv
        cases cl with
        | false =>
          go_upto_region 7 with fail
          obtain ⟨W5, eW5, h5⟩ := tk_set1 T2.out x.2.2
          rw [← eW5]
          clear eW5
          have ld := row_load h5.1 rfl
          have st := h5.2.1
          have K5 := hide' h5.2.2
          clear h5 s25 fz s14 f1 x14 x25
          go_wp2_with (first | (refine load43 rfl _ rfl _ _ rfl ld ?_) | (refine wpList_store_row rfl 43 _ _ rfl _ _ rfl rfl 43 zero43 st info43 rfl (srv_all y t2 _) ?_))
          refine bodyPost_ret (res9 rfl rfl rfl (setRow_heap _ _ _ _ _ _ st) rfl) rfl ⟨⟨i, HF.out, .inr ⟨⟨by rw [HN.out]; exact hin, by rw [HX.out]; exact HY.out, hty, by rw [HCC.out]; omega⟩, ?_⟩⟩, K5.out.setRow _ _ (by omega)⟩
          rw [HX.out]
          rfl
        | true =>
          go_upto_region 7 with fail
          obtain ⟨W5, eW5, h5⟩ := tk_set2 T2.out x.2.2 (IntKind.u64.wrap (x.2.2 + 1))
          rw [← eW5]
          clear eW5
          have ld := row_load h5.1 rfl
          have st := h5.2.1
          have K5 := hide' h5.2.2
          clear h5 s25 fz s14 f1 x14 x25
          go_wp2_with (first | (refine load43 rfl _ rfl _ _ rfl ld ?_) | (refine wpList_store_row rfl 43 _ _ rfl _ _ rfl rfl 43 zero43 st info43 rfl (srv_all y t2 _) ?_))
          refine bodyPost_ret (res9 rfl rfl rfl (setRow_heap _ _ _ _ _ _ st) rfl) rfl ⟨⟨i, HF.out, .inr ⟨⟨by rw [HN.out]; exact hin, by rw [HX.out]; exact HY.out, hty, by rw [HCC.out]; omega⟩, ?_⟩⟩, K5.out.setRow _ _ (by omega)⟩
          rw [HX.out]
          rfl
  · rw [decide_eq_false hfd]
    go_upto_region 2 with fail
    go_quiet (fail)
    have T2 := hide' (T1.out.then (Kept.drewN [] w1 nq))
    have ld := row_load T2.out.srv rfl
    have st := T2.out.res
    go_wp2_with (first | (refine load43 rfl _ rfl _ _ rfl ld ?_) | (refine wpList_store_row rfl 43 _ _ rfl _ _ rfl rfl 43 zero43 st info43 rfl (srv_all y t2 g) ?_))
    refine bodyPost_ret (res9 rfl rfl rfl (setRow_heap _ _ _ _ _ _ st) rfl) rfl ⟨⟨i, HF.out, .inl ⟨fun h => hfd ⟨by rw [← HN.out]; exact h.1, h.2.1⟩, rfl⟩⟩, T2.out.kept.setRow _ _ (by omega)⟩
end Go.Proofs.Ybulkdsw
