/-
  Seat b0236a: the walk of weightsAt (9).
-/
import Derived.Test.YbulkdwcState
import Derived.Test.YbulkdwcLocks
import Derived.Conc.MuLone
namespace Go.Proofs.Ybulkdwc
open Go.RowKit Go.MuLone

theorem info50 : (Yba.prog.info? 50).map (fun i => (i.zero, i.size, i.bytes)) = some (some (.float .f64 0), 1, 8) := by kernel_rfl
/-- the weights' row, filled up to j -/
def Outs (c : Cfg) (wx : World) (ob j : Nat) : Prop := ∃ cur : List Value, wx.heap[ob]? = some (.cells cur.toArray 50 (0, 0)) ∧ cur.length = c.m ∧ ∀ t, t < j → cur[t]? = some (.float .f64 (c.wt' t))
theorem Outs.set {c : Cfg} {wx : World} {ob j : Nat} (h : Outs c wx ob j) (hj : j < c.m) : Outs c (wx.setCell ⟨ob, j, none⟩ (.float .f64 (c.wt' j))) ob (j + 1) := by
  obtain ⟨cur, h1, h2, h3⟩ := h
  refine ⟨cur.set j (.float .f64 (c.wt' j)), ?_, by simpa using h2, fun t ht => ?_⟩
  · rw [set_block h1]
    simp
  · by_cases e : t = j
    · subst e
      rw [List.getElem?_set_self (by omega)]
    · rw [List.getElem?_set_ne (Ne.symm e)]
      exact h3 t (by omega)
theorem make_outs (c : Cfg) (w : World) (hn : c.m ≤ 1024) : ∃ w', (Instr.makeSlice 43 (.int .i64 (c.m : Int)) (.int .i64 (c.m : Int))).run Yba.prog w = .ok (.slice (some ⟨w.heap.size, 0, none⟩) c.m c.m) w' ∧ Outs c w' w.heap.size 0 ∧ Kept [] w w' := by
  obtain ⟨i0, hi, hz0, hz1, hz2⟩ := info_parts info50
  have h := run_makeSlice (P := Yba.prog) w 43 50 i0 (.float .f64 0) Yba.underlying43 hi hz0 .i64 .i64 c.m c.m (by omega) (Int.le_refl _) (by rw [hz1]; omega) (by rw [hz2]; omega) (by omega)
  rw [Int.toNat_natCast, hz1] at h
  refine ⟨_, h, ⟨(madeCells (Value.float .f64 0).cells (c.m * 1)).toList, by simpa using heap_alloc_new _ _, ?_, by simp⟩, (Kept.refl _ _).alloc _⟩
  simp [size_madeCells]

set_option maxRecDepth 100000 in
set_option maxHeartbeats 4000000 in
theorem at_any (c : Cfg) (rb : Bool) (w : World) (h : ST c 0 0 0 [] 0 w) :
    Calls Yba.prog 9 #[.pointer (some ⟨c.gb, 0, none⟩), .agg (tmCells c.now), .slice (some ⟨c.lb, 0, none⟩) c.m c.m, .pointer (some ⟨c.sb, 0, none⟩), .bool rb] w fun e w' =>
      (∃ (ob : Nat) (cur : List Value), e = .returned (.slice (some ⟨ob, 0, none⟩) c.m c.m) ∧ w'.heap[ob]? = some (.cells cur.toArray 50 (0, 0)) ∧ cur.length = c.m ∧ ∀ i, i < c.m → cur[i]? = some (.float .f64 (c.wt' i))) ∧
      ST c 0 c.m (c.cnt c.m) (c.logs c.m ++ if rb then [(66, ⟨#[]⟩)] else []) (if rb then c.now else 0) w' ∧ FrS c w w' := by
  obtain ⟨LF, hLF⟩ : ∃ LF, (c.logs c.m ++ if rb then [(66, ⟨#[]⟩)] else []) = LF := ⟨_, rfl⟩
  obtain ⟨AF, hAF⟩ : ∃ AF, (if rb then c.now else 0) = AF := ⟨_, rfl⟩
  rw [hLF, hAF]
  have HLF := hide' hLF
  have HAF := hide' hAF
  clear hLF hAF
  obtain ⟨W, eW, hW⟩ : ∃ W, W = w.alloc (.cells (tmCells c.now) 46) ∧ Kept [] w W := ⟨_, rfl, (Kept.refl _ _).alloc _⟩
  have hT : W.heap[w.heap.size]? = some (.cells (tmCells c.now) 46 (0, 0)) := by rw [eW]; exact heap_alloc_new _ _
  obtain ⟨tb, htb⟩ : ∃ tb, w.heap.size = tb := ⟨_, rfl⟩
  rw [htb] at hT
  have h1 := h.then hW
  have c0 : W.cell? ⟨c.gb, 0, none⟩ = some (.int .i32 0) := (box_cell h1.g 0).trans rfl
  have f0 : W.frozen? ⟨c.gb, 0, none⟩ = false := free_box h1.g
  have hm1 : c.m ≤ 1024 := h.ms.1
  have HT := hide' hT
  have H1 := hide' h1
  have HW := hide' hW
  have HEW := hide' eW
  clear h h1 hT hW
  go_enter_defers Yba.func9, Yba.ntmps9
  go_upto_region 1 with fail
  rw [← HEW.out]
  clear eW htb HEW
  go_wp2_with fail
  refine Calls.mono (lock_free muLib ⟨c.gb, 0, none⟩ W c0 f0) ?_
  rintro e W2 ⟨rfl, eW2⟩
  have S2 : Hid (ST c 1 0 (c.cnt 0) (c.logs 0) 0 W2) := by show ST c 1 0 0 [] 0 W2; rw [eW2]; exact H1.out.lock
  have F2 : Hid (FrS c w W2) := by show FrS c w W2; rw [eW2]; exact (FrS.of_kept HW.out).setG 0 _
  have T2 : Hid (W2.heap[tb]? = some (.cells (tmCells c.now) 46 (0, 0))) := by
    show W2.heap[tb]? = _
    have hne : tb ≠ c.gb := by
      rintro rfl
      have := HT.out.symm.trans H1.out.g
      simp at this
    rw [eW2, Below.heap_setCell _ _ _ _ hne]
    exact HT.out
  clear eW2 c0 f0 H1 HW HT
  go_wp2_with fail
  go_loopw [25] (fun iv wx => ∃ i : Nat, i ≤ c.m ∧ iv = .int .i64 i ∧ Hid (ST c 1 i (c.cnt i) (c.logs i) 0 wx) ∧ Hid (FrS c w wx) ∧ Hid (wx.heap[tb]? = some (.cells (tmCells c.now) 46 (0, 0)))) (fun iv _ => c.m - (intOf iv).toNat)
  case atStart => exact ⟨0, Nat.zero_le _, rfl, S2, F2, T2⟩
  case round =>
    clear S2 F2 T2
    obtain ⟨i, hi, rfl, SX, FX, TX⟩ := hrel
    by_cases hlt : i < c.m
    · have hltz : (i : Int) < (c.m : Int) := by omega
      have p0 : wr.cell? ⟨c.lb, i, none⟩ = some (.pointer (some ⟨c.P i, 0, none⟩)) := by
        obtain ⟨ps, r1, r2, r3⟩ := SX.out.row
        rw [box_cell r1]
        simpa using r3 i hlt
      have t0 : wr.cell? ⟨tb, 0, none⟩ = some (.int .u64 (c.now % 1000000000)) := (box_cell TX.out 0).trans rfl
      have t1 : wr.cell? ⟨tb, 1, none⟩ = some (.int .i64 (c.now / 1000000000)) := (box_cell TX.out 1).trans rfl
      have t2 : wr.cell? ⟨tb, 2, none⟩ = some (.pointer none) := (box_cell TX.out 2).trans rfl
      have HREN : Hid (Calls Yba.prog 20 #[.pointer (some ⟨c.gb, 0, none⟩), .pointer (some ⟨c.P i, 0, none⟩), .agg #[.int .u64 (c.now % 1000000000), .int .i64 (c.now / 1000000000), .pointer none], .pointer (some ⟨c.sb, 0, none⟩)] wr fun e w' => e = .returned (.tuple #[]) ∧
          ST c 1 (i + 1) (c.cnt (i + 1)) (c.logs (i + 1)) 0 w' ∧ FrS c wr w') := by
        have hl := SX.out.lws i hlt
        have hlw : c.lw i i = lwCells (c.rep i) (c.last i) (c.wt i) (c.ad i) (c.gone i) := by simp [Cfg.lw]
        rw [hlw] at hl
        have hla := SX.out.la i hlt
        have hno := SX.out.no
        cases hr : c.ren i
        · refine (renew_skip c.gb (c.P i) c.sb (c.rep i) (c.last i) c.now c.ex (c.wt i) (c.ad i) (c.gone i) wr hl SX.out.s hla.1 hla.2 hno.1 hno.2 hr).mono ?_
          rintro e w' ⟨rfl, k⟩
          exact ⟨rfl, SX.out.skip hr k, FrS.of_kept k⟩
        · have hr2 := hr
          unfold Cfg.ren at hr2
          simp at hr2
          obtain ⟨hg, hrep, hex⟩ := hr2
          rw [hg, hrep] at hl
          have hc := c.cnt_le i
          have hll := c.logs_len i
          have hms := SX.out.ms
          refine (renew_do c.B c.gb c.hb (c.P i) c.sb 1 c.ao c.an c.ac (c.cnt i) (c.logs i) 0 c.xs (c.last i) c.now c.ex (c.wt i) (c.ad i) wr SX.out.g hl SX.out.s SX.out.hk SX.out.ans SX.out.b2 SX.out.b1 (by omega) (by omega) hms.2 (SX.out.b3 i hlt) hla.1 hla.2 hno.1 hno.2 hex).mono ?_
          rintro e w' ⟨rfl, hl', hk', fr⟩
          exact ⟨rfl, SX.out.renewed hlt hr hl' hk' fr, FrS.of_fr2 hlt fr⟩
      go_wp2_with fail
      refine Calls.mono HREN.out ?_
      rintro e w3 ⟨rfl, s3, f3⟩
      have S3 := hide' s3
      have T3 := hide' (f3.other SX.out TX.out (by decide))
      have F3 := hide' (FX.out.trans f3)
      clear s3 f3 HREN SX FX TX t0 t1 t2 p0
      go_wp2_with fail
      go_roundw
      case rel => exact ⟨i + 1, by omega, by go_num, S3, F3, T3⟩
      case measure => simp [intOf]; omega
    · obtain rfl : i = c.m := by omega
      clear hlt hi
      go_upto_if 35 with fail
      go_cut [] from 35 to 41 (fun wx => Hid (ST c 1 c.m (c.cnt c.m) LF AF wx) ∧ Hid (FrS c w wx))
      case first =>
        cases rb with
        | false =>
          go_wp2_with fail
          go_meet
          case rel => exact ⟨by rw [← HLF.out, ← HAF.out]; simpa using SX, FX⟩
        | true =>
          have g2 : wr.cell? ⟨c.gb, 2, none⟩ = some (.iface 58 (.pointer (some ⟨c.hb, 0, none⟩))) := (box_cell SX.out.g 2).trans rfl
          have t0 : wr.cell? ⟨tb, 0, none⟩ = some (.int .u64 (c.now % 1000000000)) := (box_cell TX.out 0).trans rfl
          have t1 : wr.cell? ⟨tb, 1, none⟩ = some (.int .i64 (c.now / 1000000000)) := (box_cell TX.out 1).trans rfl
          have t2 : wr.cell? ⟨tb, 2, none⟩ = some (.pointer none) := (box_cell TX.out 2).trans rfl
          have HRB : Hid (∀ W', Kept [] wr W' → Calls Yba.prog 69 #[.pointer (some ⟨c.hb, 0, none⟩), .agg #[.int .u64 (c.now % 1000000000), .int .i64 (c.now / 1000000000), .pointer none]] W' fun e w' => e = .returned (.tuple #[]) ∧
              ST c 1 c.m (c.cnt c.m) (c.logs c.m ++ [(66, ⟨#[]⟩)]) c.now w' ∧ FrS c W' w') := fun W' kw => by
            have hll := c.logs_len c.m
            have sx := SX.out.then kw
            refine (rebuild_any c.B c.hb c.ao c.an c.ac (c.cnt c.m) (c.logs c.m) 0 c.now W' sx.hk sx.b1 (by omega)).mono ?_
            rintro e w' ⟨rfl, hk', fr⟩
            exact ⟨rfl, sx.told hk' fr, FrS.of_fr fr⟩
          go_upto_region 9 with fail
          go_region_held3 (fun w' => w'.cell? ⟨c.gb, 2, none⟩ = some (.iface 58 (.pointer (some ⟨c.hb, 0, none⟩))) ∧ w'.cell? ⟨tb, 0, none⟩ = some (.int .u64 (c.now % 1000000000)) ∧ w'.cell? ⟨tb, 1, none⟩ = some (.int .i64 (c.now / 1000000000)) ∧ w'.cell? ⟨tb, 2, none⟩ = some (.pointer none)) (go_keep)
            (first | (go_at_call 69; refine (HRB.out _ ((Kept.refl [] wr).drew)).mono ?_; rintro e w4 ⟨rfl, s4, f4⟩; have f5 := (FrS.of_kept (c := c) ((Kept.refl [] wr).drew)).trans f4; have tt := f5.other SX.out TX.out (by decide); have g2' : w4.cell? ⟨c.gb, 2, none⟩ = some (.iface 58 (.pointer (some ⟨c.hb, 0, none⟩))) := (box_cell s4.g 2).trans rfl; have t0' : w4.cell? ⟨tb, 0, none⟩ = some (.int .u64 (c.now % 1000000000)) := (box_cell tt 0).trans rfl; have t1' : w4.cell? ⟨tb, 1, none⟩ = some (.int .i64 (c.now / 1000000000)) := (box_cell tt 1).trans rfl; have t2' : w4.cell? ⟨tb, 2, none⟩ = some (.pointer none) := (box_cell tt 2).trans rfl))
          all_goals
            have S4 := hide' s4
            have F4 := hide' (FX.out.trans f5)
            clear s4 f4 f5 tt
            go_wp2_with fail
            go_meet
            exact ⟨by rw [← HLF.out, ← HAF.out]; simpa using S4, F4⟩
      case rest =>
      obtain ⟨SC, FC⟩ := hcut
      clear SX FX TX
      obtain ⟨w5, hmk, ou5, k5⟩ := make_outs c wc hm1
      have S5 := hide' (SC.out.then k5)
      have F5 := hide' (FC.out.trans (FrS.of_kept k5))
      obtain ⟨ob, hob⟩ : ∃ ob, wc.heap.size = ob := ⟨_, rfl⟩
      have hobw : w.heap.size ≤ ob := by have := FC.out.size; omega
      have hobB : c.B ≤ ob := by have := SC.out.b1; omega
      rw [hob] at hmk ou5
      have O5 := hide' ou5
      clear k5 ou5 SC FC hob
      go_wp2_with fail
      clear hmk
      go_loopw [47] (fun jv wx => ∃ j : Nat, j ≤ c.m ∧ jv = .int .i64 j ∧ Hid (ST c 1 c.m (c.cnt c.m) LF AF wx) ∧ Hid (FrS c w wx) ∧ Hid (Outs c wx ob j)) (fun jv _ => c.m - (intOf jv).toNat)
      case atStart => exact ⟨0, Nat.zero_le _, rfl, S5, F5, O5⟩
      case round =>
        clear S5 F5 O5
        obtain ⟨j, hj, rfl, SX, FX, OX⟩ := hrel
        by_cases hjl : j < c.m
        · have hjz : (j : Int) < (c.m : Int) := by omega
          have p0 : wr.cell? ⟨c.lb, j, none⟩ = some (.pointer (some ⟨c.P j, 0, none⟩)) := by
            obtain ⟨ps, r1, r2, r3⟩ := SX.out.row
            rw [box_cell r1]
            simpa using r3 j hjl
          have hl := SX.out.lws j hjl
          have l9 : wr.cell? ⟨c.P j, 9, none⟩ = some (.float .f64 (c.wt' j)) := by
            rw [box_cell hl]
            simp [Cfg.lw, lwCells, hjl]
          obtain ⟨cur, o1, o2, o3⟩ := OX.out
          obtain ⟨uc, oc⟩ : ∃ u, wr.cell? ⟨ob, j, none⟩ = some u := ⟨cur[j], by rw [box_cell o1]; simp⟩
          have hst := store_float (b := c.wt' j) oc (free_box o1)
          have S6 := hide' (SX.out.setOther (i := j) (v := .float .f64 (c.wt' j)) o1 hobB (by decide))
          have F6 := hide' (FX.out.setNew ob j (.float .f64 (c.wt' j)) hobw)
          have O6 := hide' (OX.out.set hjl)
          clear o1 o2 o3 hl SX FX OX
          go_wp2_with fail
          go_roundw
          case rel => exact ⟨j + 1, by omega, by go_num, S6, F6, O6⟩
          case measure => simp [intOf]; omega
        · obtain rfl : j = c.m := by omega
          clear hjl hj
          go_wp2_with fail
          refine leaves_cons (f := 19) (args := #[.pointer (some ⟨c.gb, 0, none⟩)]) (by simp) (by simp [go_sem]) ?_
          refine (unlock_deferred muLib ⟨c.gb, 0, none⟩ .returning _ ((box_cell SX.out.g 0).trans rfl) (free_box SX.out.g)).mono ?_
          rintro e u' w'' ⟨rfl, rfl, rfl⟩
          refine ⟨_, results_tmp rfl _ _ _, ?_⟩
          obtain ⟨cur, o1, o2, o3⟩ := OX.out
          have hne : ob ≠ c.gb := by
            rintro rfl
            have := o1.symm.trans SX.out.g
            simp at this
          exact ⟨⟨ob, cur, rfl, (Below.heap_setCell _ _ _ _ hne).trans o1, o2, o3⟩, SX.out.lock, FX.out.setG 0 _⟩
end Go.Proofs.Ybulkdwc
