/-
  Seat b0230aF: the walks of io.ReadAtLeast (29) and io.ReadFull (22) over the law's reader, at a buffer of sixteen.
-/
import Derived.Test.YbulkdswFmtLim
import Derived.LoopN
import Derived.LaidEql
namespace Go.Proofs.YbulkdswFmt
open Go.RowKit

theorem info71 : (Ybaf.prog.info? 71).map (fun i => i.comparable) = some true := by kernel_rfl
theorem info73 : ((Ybaf.prog.info? 73).map (fun i => i.comparable)).isSome = true := by kernel_rfl
@[go_sem] theorem errEq (a : Addr) (w : World) : (binOp .eql 47 (.iface 71 (.pointer (some a))) (.iface 71 (.pointer (some a)))).run Ybaf.prog w = .ok (.bool true) w := by
  cases h : Ybaf.prog.info? 71 with
  | none => have := info71; rw [h] at this; cases this
  | some i =>
    cases h2 : Ybaf.prog.info? 73 with
    | none => have := info73; rw [h2] at this; cases this
    | some j => exact run_eql_iface_ptr_same w a Ybaf.underlying47 Ybaf.underlying71 h (by have := info71; rw [h] at this; simpa using this) h2
@[go_sem] theorem errNeq (a : Addr) (w : World) : (binOp .neq 47 (.iface 71 (.pointer (some a))) (.iface 71 (.pointer (some a)))).run Ybaf.prog w = .ok (.bool false) w := by
  cases h : Ybaf.prog.info? 71 with
  | none => have := info71; rw [h] at this; cases this
  | some i =>
    cases h2 : Ybaf.prog.info? 73 with
    | none => have := info73; rw [h2] at this; cases this
    | some j =>
      simp only [binOp]
      simp [Op.equal, Op.maxDepth, run_equalIn_iface_ptr_same w 9998 a Ybaf.underlying47 Ybaf.underlying71 h (by have := info71; rw [h] at this; simpa using this) h2]

set_option maxHeartbeats 1000000 in
theorem least_none (rb sb n c k hb : Nat) (T : TypeId) (x : Value) (w : World) (hbox : w.heap[rb]? = some (.cells #[.slice (some ⟨sb, 0, none⟩) n c, .int .i64 k] 43 (0, 0))) (hr : n ≤ k) (hev : w.cell? ⟨1, 0, none⟩ = some (.iface T x)) :
    Calls Ybaf.prog 29 #[.iface 41 (.pointer (some ⟨rb, 0, none⟩)), .slice (some ⟨hb, 0, none⟩) 16 16, .int .i64 16] w fun e w' => e = .returned (.tuple #[.int .i64 0, .iface T x]) ∧ Kept [] w w' := by
  have HR := hide' (fun p q => read_eof rb sb n c k p (.iface T x) (w.drewN q) hbox hr hev)
  clear hbox hev hr
  go_enter Ybaf.func29, Ybaf.ntmps29
  go_wp2_with fail
  refine wp_loop_rounds 3 ?_
  rw [rounds_succ]
  go_wp2_with fail
  go_region_with (go_at_call 49; refine (HR.out _ _).mono ?_; rintro e w1 ⟨rfl, hk⟩)
  all_goals
    go_wp2_with fail
    rw [rounds_succ]
    go_wp2_with fail
    go_ret2
    exact ⟨rfl, ((Kept.refl _ _).drewN' _).trans hk⟩

set_option maxHeartbeats 1000000 in
theorem least_full (rb sb n c k hb T : Nat) (zs cur : List Value) (w : World) (hbox : w.heap[rb]? = some (.cells #[.slice (some ⟨sb, 0, none⟩) n c, .int .i64 k] 43 (0, 0))) (hk : k + 16 ≤ n) (hn : n ≤ c) (hc : c ≤ 2000)
    (hz : w.heap[sb]? = some (.cells zs.toArray 5 (0, 0))) (hone : ∀ u ∈ zs, u.oneCell' = true) (hzl : zs.length = c) (hp : w.heap[hb]? = some (.cells cur.toArray T (0, 0))) (hfit : cur.length = 16) (h1 : rb ≠ hb) :
    Calls Ybaf.prog 29 #[.iface 41 (.pointer (some ⟨rb, 0, none⟩)), .slice (some ⟨hb, 0, none⟩) 16 16, .int .i64 16] w fun e w' => e = .returned (.tuple #[.int .i64 16, .nilIface]) ∧
      w'.heap[rb]? = some (.cells #[.slice (some ⟨sb, 0, none⟩) n c, .int .i64 ((k + 16 : Nat) : Int)] 43 (0, 0)) ∧ w'.heap[hb]? = some (.cells ((zs.drop k).take 16).toArray T (0, 0)) ∧ Kept [rb, hb] w w' := by
  have hspl : splice cur 0 ((zs.drop k).take 16) = (zs.drop k).take 16 := by
    unfold splice
    have : ((zs.drop k).take 16).length = 16 := by rw [List.length_take, List.length_drop]; omega
    rw [show cur.drop (0 + ((zs.drop k).take 16).length) = [] from List.drop_eq_nil_of_le (by omega)]
    simp
  have HR := hide' (fun q => read_some rb sb n c k hb 0 16 16 T zs cur (w.drewN q) hbox (by omega) hn hc hz hone hzl hp (by omega) h1 16 (by show 16 = min (n - k) 16; omega))
  rw [hspl] at HR
  clear hbox hz hone hp hspl
  go_enter Ybaf.func29, Ybaf.ntmps29
  go_wp2_with fail
  refine wp_loop_rounds 3 ?_
  rw [rounds_succ]
  go_wp2_with fail
  go_region_with (go_at_call 49; refine Calls.mono (HR.out _) ?_; rintro e w1 ⟨rfl, hr1, hp1, hk1⟩)
  all_goals
    have R1 := hide' hr1
    have P1 := hide' hp1
    clear hr1 hp1
    go_wp2_with fail
    rw [rounds_succ]
    go_wp2_with fail
    go_ret2
    exact ⟨rfl, R1.out, P1.out, ((Kept.refl _ _).drewN' _).trans hk1⟩

set_option maxHeartbeats 1000000 in
theorem least_part (rb sb n c k hb T : Nat) (ea ua : Addr) (zs cur : List Value) (w : World) (hbox : w.heap[rb]? = some (.cells #[.slice (some ⟨sb, 0, none⟩) n c, .int .i64 k] 43 (0, 0))) (hk0 : k < n) (hk : n < k + 16) (hn : n ≤ c) (hc : c ≤ 2000)
    (hz : w.heap[sb]? = some (.cells zs.toArray 5 (0, 0))) (hone : ∀ u ∈ zs, u.oneCell' = true) (hzl : zs.length = c) (hp : w.heap[hb]? = some (.cells cur.toArray T (0, 0))) (hfit : cur.length = 16) (h1 : rb ≠ hb)
    (hev : w.cell? ⟨1, 0, none⟩ = some (.iface 71 (.pointer (some ea)))) (huv : w.cell? ⟨2, 0, none⟩ = some (.iface 71 (.pointer (some ua)))) (hg : 2 < rb ∧ 2 < hb) :
    Calls Ybaf.prog 29 #[.iface 41 (.pointer (some ⟨rb, 0, none⟩)), .slice (some ⟨hb, 0, none⟩) 16 16, .int .i64 16] w fun e w' => e = .returned (.tuple #[.int .i64 ((n - k : Nat) : Int), .iface 71 (.pointer (some ua))]) ∧
      w'.heap[rb]? = some (.cells #[.slice (some ⟨sb, 0, none⟩) n c, .int .i64 n] 43 (0, 0)) ∧ Kept [rb, hb] w w' := by
  obtain ⟨m, hm⟩ : ∃ m, m = n - k := ⟨_, rfl⟩
  have HR := hide' (fun q => read_some rb sb n c k hb 0 16 16 T zs cur (w.drewN q) hbox (by omega) hn hc hz hone hzl hp (by omega) h1 m (by show m = min (n - k) 16; omega))
  have hr2 := lt_box hbox
  have hr3 := lt_box hp
  rw [← hm]
  have hkm : k + m = n := by omega
  have hm1 : (m : Int) < 16 := by omega
  have hm0 : (0 : Int) < (m : Int) := by omega
  have hm2 : ¬ (16 : Int) ≤ (m : Int) := by omega
  have hm3 : m < 16 := by omega
  rw [hkm] at HR
  have HE : ∀ w1 : World, w1.heap[rb]? = some (.cells #[.slice (some ⟨sb, 0, none⟩) n c, .int .i64 n] 43 (0, 0)) → w1.cell? ⟨1, 0, none⟩ = some (.iface 71 (.pointer (some ea))) → ∀ p, Calls Ybaf.prog 49 #[.pointer (some ⟨rb, 0, none⟩), p] w1 fun e w' => e = .returned (.tuple #[.int .i64 0, .iface 71 (.pointer (some ea))]) ∧ Kept [] w1 w' := fun w1 h h' p => read_eof rb sb n c n p _ w1 h (Nat.le_refl _) h'
  have HE' := hide' HE
  clear hz hone HE hbox hp hm hkm
  go_enter Ybaf.func29, Ybaf.ntmps29
  go_wp2_with fail
  refine wp_loop_rounds 3 ?_
  rw [rounds_succ]
  go_wp2_with fail
  go_region_with (go_at_call 49; refine Calls.mono (HR.out _) ?_; rintro e w1 ⟨rfl, hr1, _, hk1⟩)
  all_goals
    have R1 := hide' hr1
    have v1 : w1.cell? ⟨1, 0, none⟩ = some (.iface 71 (.pointer (some ea))) := (hk1.cell (by show 1 < w.heap.size; omega) (by simp; omega)).trans hev
    have v2 : w1.cell? ⟨2, 0, none⟩ = some (.iface 71 (.pointer (some ua))) := (hk1.cell (by show 2 < w.heap.size; omega) (by simp; omega)).trans huv
    have ks1 : w.heap.size ≤ w1.heap.size := hk1.size
    have HF := hide' (fun q => HE'.out (w1.drewN q) R1.out v1)
    have K1 := hide' hk1
    have V1 := hide' v1
    have V2 := hide' v2
    clear hr1 HR HE' hk1 v1 v2 hev huv
    go_wp2_with fail
    rw [rounds_succ]
    go_wp2_with fail
    go_region_with (go_at_call 49; refine Calls.mono (HF.out _ _) ?_; rintro e w2 ⟨rfl, hk2⟩)
    all_goals
      have u1 : w2.cell? ⟨1, 0, none⟩ = some (.iface 71 (.pointer (some ea))) := (hk2.cell (by show 1 < w1.heap.size; omega) (by simp)).trans V1.out
      have u2 : w2.cell? ⟨2, 0, none⟩ = some (.iface 71 (.pointer (some ua))) := (hk2.cell (by show 2 < w1.heap.size; omega) (by simp)).trans V2.out
      have K2 := hide' hk2
      clear hk2 HF
      go_wp2_with fail
      rw [rounds_succ]
      go_wp2_with fail
      go_ret2
      refine ⟨rfl, (K2.out.block rb (by show rb < w1.heap.size; omega) (by simp)).trans R1.out, ?_⟩
      exact (((Kept.refl _ _).drewN' _).trans K1.out).then ((Kept.drewN _ _ _).trans K2.out) (by simp)

set_option maxHeartbeats 1000000 in
theorem full_of (rd p : Value) (b : Option Addr) (n c : Nat) (w : World) {Q : Ending → World → Prop} (x y : Value) (hp : p = .slice b n c) (h : Calls Ybaf.prog 29 #[rd, p, .int .i64 n] w fun e w' => e = .returned (.tuple #[x, y]) ∧ Q e w') :
    Calls Ybaf.prog 22 #[rd, p] w fun e w' => e = .returned (.tuple #[x, y]) ∧ Q e w' := by
  subst hp
  have H := hide' h
  clear h
  go_enter Ybaf.func22, Ybaf.ntmps22
  go_wp2_with fail
  refine Calls.mono H.out ?_
  rintro e w1 ⟨rfl, hq⟩
  go_wp2_with fail
  go_ret2
  exact ⟨rfl, hq⟩
end Go.Proofs.YbulkdswFmt
