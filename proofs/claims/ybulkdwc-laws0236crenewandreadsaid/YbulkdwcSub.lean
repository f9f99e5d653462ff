/-
  Seat b0236a: time.Time's Equal (11), Sub (34).
-/
import Derived.Test.YbulkdwcTime
namespace Go.Proofs.Ybulkdwc
open Go.RowKit

theorem and_two (x y : Int) (h0 : 0 ≤ x) (h1 : x < 1000000000) (h2 : 0 ≤ y) (h3 : y < 1000000000) : ∃ z, bits BinOp.and IntKind.u64 x y = z ∧ 0 ≤ z ∧ z < 1000000000 := by
  obtain ⟨n, rfl⟩ := Int.eq_ofNat_of_zero_le h0
  obtain ⟨m, rfl⟩ := Int.eq_ofNat_of_zero_le h2
  refine ⟨_, u64_and_nat n m (by omega) (by omega), by omega, ?_⟩
  have : n &&& m ≤ n := Nat.and_le_left
  omega

/-- two times, boxed -/
theorem two_times (w : World) (A B : Int) : ∃ W, W = (w.alloc (.cells (tmCells A) 46)).alloc (.cells (tmCells B) 46) ∧ W.heap[w.heap.size]? = some (.cells (tmCells A) 46 (0, 0)) ∧ W.heap[w.heap.size + 1]? = some (.cells (tmCells B) 46 (0, 0)) ∧ Kept [] w W := by
  refine ⟨_, rfl, ?_, ?_, ((Kept.refl _ _).alloc _).alloc _⟩
  · rw [Below.heap_alloc _ _ _ (by simp)]
    exact heap_alloc_new _ _
  · have := heap_alloc_new (w.alloc (.cells (tmCells A) 46)) (.cells (tmCells B) 46)
    simpa using this

set_option maxRecDepth 100000 in
set_option maxHeartbeats 2000000 in
theorem equal_any (A B : Int) (w : World) : Calls Yba.prog 11 #[.agg (tmCells A), .agg (tmCells B)] w fun e w' => e = .returned (.bool (decide (A = B))) ∧ Kept [] w w' := by
  obtain ⟨b, hb⟩ : ∃ b, decide (A = B) = b := ⟨_, rfl⟩
  rw [hb]
  have HB := hide' hb
  clear hb
  go_enter Yba.func11, Yba.ntmps11
  go_upto_region 1 with fail
  obtain ⟨W, eW, hW1, hW2, kW⟩ := two_times w A B
  rw [← eW]
  clear eW
  have c0 : W.cell? ⟨w.heap.size, 0, none⟩ = some (.int .u64 (A % 1000000000)) := (box_cell hW1 0).trans rfl
  have c1 : W.cell? ⟨w.heap.size, 1, none⟩ = some (.int .i64 (A / 1000000000)) := (box_cell hW1 1).trans rfl
  have d0 : W.cell? ⟨w.heap.size + 1, 0, none⟩ = some (.int .u64 (B % 1000000000)) := (box_cell hW2 0).trans rfl
  have d1 : W.cell? ⟨w.heap.size + 1, 1, none⟩ = some (.int .i64 (B / 1000000000)) := (box_cell hW2 1).trans rfl
  have K := hide' kW
  have hAB := hide' (show A = B ↔ (A / 1000000000 = B / 1000000000 ∧ A % 1000000000 = B % 1000000000) by omega)
  have x0 : 0 ≤ A % 1000000000 := by omega
  have x1 : A % 1000000000 < 1000000000 := by omega
  have y0 : 0 ≤ B % 1000000000 := by omega
  have y1 : B % 1000000000 < 1000000000 := by omega
  clear hW1 hW2 kW
  generalize A % 1000000000 = x at c0 hAB x0 x1
  generalize A / 1000000000 = s at c1 hAB
  generalize B % 1000000000 = y at d0 hAB y0 y1
  generalize B / 1000000000 = t at d1 hAB
  obtain ⟨z, ez, hz0, hz1⟩ := and_two x y x0 x1 y0 y1
  have eh := and_high z hz0 hz1
  have N1 := hide' (nsec_any w.heap.size x W c0 x0 x1)
  have N2 := hide' (nsec_any (w.heap.size + 1) y W d0 y0 y1)
  have S1 := hide' (sec_any w.heap.size x s W c0 c1 x0 x1)
  have S2 := hide' (sec_any (w.heap.size + 1) y t W d0 d1 y0 y1)
  by_cases hst : s = t
  · by_cases hxy : x = y
    · obtain rfl : b = true := by rw [← HB.out]; exact decide_eq_true (hAB.out.2 ⟨hst, hxy⟩)
      subst hst
      subst hxy
      go_wp2_with fail
      refine Calls.mono S1.out ?_
      rintro e W2 ⟨rfl, e2⟩
      replace e2 := e2.symm
      subst e2
      go_wp2_with fail
      refine Calls.mono S2.out ?_
      rintro e W3 ⟨rfl, e2⟩
      replace e2 := e2.symm
      subst e2
      go_wp2_with fail
      refine Calls.mono N1.out ?_
      rintro e W4 ⟨rfl, e2⟩
      replace e2 := e2.symm
      subst e2
      go_wp2_with fail
      refine Calls.mono N2.out ?_
      rintro e W5 ⟨rfl, e2⟩
      replace e2 := e2.symm
      subst e2
      go_wp2_with fail
      go_ret
      exact ⟨rfl, K.out⟩
    · obtain rfl : b = false := by rw [← HB.out]; exact decide_eq_false (fun h => hxy (hAB.out.1 h).2)
      have hxb : (x == y) = false := by simpa using hxy
      subst hst
      go_wp2_with fail
      refine Calls.mono S1.out ?_
      rintro e W2 ⟨rfl, e2⟩
      replace e2 := e2.symm
      subst e2
      go_wp2_with fail
      refine Calls.mono S2.out ?_
      rintro e W3 ⟨rfl, e2⟩
      replace e2 := e2.symm
      subst e2
      go_wp2_with fail
      refine Calls.mono N1.out ?_
      rintro e W4 ⟨rfl, e2⟩
      replace e2 := e2.symm
      subst e2
      go_wp2_with fail
      refine Calls.mono N2.out ?_
      rintro e W5 ⟨rfl, e2⟩
      replace e2 := e2.symm
      subst e2
      go_wp2_with fail
      go_ret
      exact ⟨rfl, K.out⟩
  · obtain rfl : b = false := by rw [← HB.out]; exact decide_eq_false (fun h => hst (hAB.out.1 h).1)
    have hsb : (s == t) = false := by simpa using hst
    go_wp2_with fail
    refine Calls.mono S1.out ?_
    rintro e W2 ⟨rfl, e2⟩
    replace e2 := e2.symm
    subst e2
    go_wp2_with fail
    refine Calls.mono S2.out ?_
    rintro e W3 ⟨rfl, e2⟩
    replace e2 := e2.symm
    subst e2
    go_wp2_with fail
    go_ret
    exact ⟨rfl, K.out⟩

set_option maxRecDepth 100000 in
set_option maxHeartbeats 2000000 in
theorem sub_any (A B : Int) (w : World) (hA1 : -4000000000000 ≤ A) (hA2 : A ≤ 4000000000000) (hB1 : -4000000000000 ≤ B) (hB2 : B ≤ 4000000000000) :
    Calls Yba.prog 34 #[.agg (tmCells A), .agg (tmCells B)] w fun e w' => e = .returned (.int .i64 (A - B)) ∧ Kept [] w w' := by
  go_enter Yba.func34, Yba.ntmps34
  go_upto_region 1 with fail
  obtain ⟨W, eW, hW1, hW2, kW⟩ := two_times w A B
  rw [← eW]
  clear eW
  have c0 : W.cell? ⟨w.heap.size, 0, none⟩ = some (.int .u64 (A % 1000000000)) := (box_cell hW1 0).trans rfl
  have c1 : W.cell? ⟨w.heap.size, 1, none⟩ = some (.int .i64 (A / 1000000000)) := (box_cell hW1 1).trans rfl
  have c2 : W.cell? ⟨w.heap.size, 2, none⟩ = some (.pointer none) := (box_cell hW1 2).trans rfl
  have d0 : W.cell? ⟨w.heap.size + 1, 0, none⟩ = some (.int .u64 (B % 1000000000)) := (box_cell hW2 0).trans rfl
  have d1 : W.cell? ⟨w.heap.size + 1, 1, none⟩ = some (.int .i64 (B / 1000000000)) := (box_cell hW2 1).trans rfl
  have d2 : W.cell? ⟨w.heap.size + 1, 2, none⟩ = some (.pointer none) := (box_cell hW2 2).trans rfl
  have K := hide' kW
  have HA := hide' (Int.emod_add_mul_ediv A 1000000000)
  have HB := hide' (Int.emod_add_mul_ediv B 1000000000)
  have x0 : 0 ≤ A % 1000000000 := by omega
  have x1 : A % 1000000000 < 1000000000 := by omega
  have y0 : 0 ≤ B % 1000000000 := by omega
  have y1 : B % 1000000000 < 1000000000 := by omega
  have s0 : -4001 ≤ A / 1000000000 := by omega
  have s1 : A / 1000000000 ≤ 4001 := by omega
  have t0 : -4001 ≤ B / 1000000000 := by omega
  have t1 : B / 1000000000 ≤ 4001 := by omega
  have L1 := lt_box hW1
  have L2 := lt_box hW2
  clear hW1 hW2 kW
  have HEA := hide' (show tmCells A = #[.int .u64 (A % 1000000000), .int .i64 (A / 1000000000), .pointer none] from rfl)
  have HEB := hide' (show tmCells B = #[.int .u64 (B % 1000000000), .int .i64 (B / 1000000000), .pointer none] from rfl)
  generalize A % 1000000000 = x at c0 HA x0 x1 HEA
  generalize A / 1000000000 = s at c1 HA s0 s1 HEA
  generalize B % 1000000000 = y at d0 HB y0 y1 HEB
  generalize B / 1000000000 = t at d1 HB t0 t1 HEB
  obtain ⟨z, ez, hz0, hz1⟩ := and_two x y x0 x1 y0 y1
  have eh := and_high z hz0 hz1
  have N1 := hide' (nsec_any w.heap.size x W c0 x0 x1)
  have N2 := hide' (nsec_any (w.heap.size + 1) y W d0 y0 y1)
  have S1 := hide' (sec_any w.heap.size x s W c0 c1 x0 x1)
  have S2 := hide' (sec_any (w.heap.size + 1) y t W d0 d1 y0 y1)
  have eD := hide' (show (s - t) * 1000000000 + (x - y) = A - B by have := HA.out; have := HB.out; omega)
  have AD := hide' (show ∀ W, Calls Yba.prog 8 #[.agg #[.int .u64 y, .int .i64 t, .pointer none], .int .i64 (A - B)] W fun e w' => e = .returned (.agg (tmCells A)) ∧ Kept [] W w' from fun W => by
    have h := add_any B (A - B) W (by omega) (by omega) (by omega) (by omega)
    rw [HEB.out, show B + (A - B) = A by omega] at h
    exact h)
  have EQ := hide' (show ∀ W, Calls Yba.prog 11 #[.agg (tmCells A), .agg #[.int .u64 x, .int .i64 s, .pointer none]] W fun e w' => e = .returned (.bool true) ∧ Kept [] W w' from fun W => by
    have h := equal_any A A W
    rw [decide_eq_true rfl] at h
    conv at h => arg 3; rw [show #[Value.agg (tmCells A), Value.agg (tmCells A)] = #[Value.agg (tmCells A), Value.agg #[.int .u64 x, .int .i64 s, .pointer none]] by rw [← HEA.out]]
    exact h)
  go_wp2_with fail
  refine Calls.mono S1.out ?_
  rintro e W2 ⟨rfl, e2⟩
  replace e2 := e2.symm
  subst e2
  go_wp2_with fail
  refine Calls.mono S2.out ?_
  rintro e W3 ⟨rfl, e2⟩
  replace e2 := e2.symm
  subst e2
  go_wp2_with fail
  refine Calls.mono N1.out ?_
  rintro e W4 ⟨rfl, e2⟩
  replace e2 := e2.symm
  subst e2
  go_wp2_with fail
  refine Calls.mono N2.out ?_
  rintro e W5 ⟨rfl, e2⟩
  replace e2 := e2.symm
  subst e2
  go_upto_region 5 with fail
  rw [eD.out]
  go_region_held3 (fun w' => w'.cell? ⟨w.heap.size, 0, none⟩ = some (.int .u64 x) ∧ w'.cell? ⟨w.heap.size, 1, none⟩ = some (.int .i64 s) ∧ w'.cell? ⟨w.heap.size, 2, none⟩ = some (.pointer none) ∧ w'.cell? ⟨w.heap.size + 1, 0, none⟩ = some (.int .u64 y) ∧ w'.cell? ⟨w.heap.size + 1, 1, none⟩ = some (.int .i64 t) ∧ w'.cell? ⟨w.heap.size + 1, 2, none⟩ = some (.pointer none)) (go_keep)
    (first
      | (go_at_call 8; refine (AD.out _).mono ?_; rintro e w2 ⟨rfl, k2⟩; have q0 := (k2.cell (p := ⟨w.heap.size, 0, none⟩) L1 (by simp)).trans c0; have q1 := (k2.cell (p := ⟨w.heap.size, 1, none⟩) L1 (by simp)).trans c1; have q2 := (k2.cell (p := ⟨w.heap.size, 2, none⟩) L1 (by simp)).trans c2; have r0 := (k2.cell (p := ⟨w.heap.size + 1, 0, none⟩) L2 (by simp)).trans d0; have r1 := (k2.cell (p := ⟨w.heap.size + 1, 1, none⟩) L2 (by simp)).trans d1; have r2 := (k2.cell (p := ⟨w.heap.size + 1, 2, none⟩) L2 (by simp)).trans d2; have K2 := hide' (K.out.drew.then k2 (by simp)))
      | (go_at_call 11; refine (EQ.out _).mono ?_; rintro e w3 ⟨rfl, k3⟩; have K3 := hide' (K2.out.then k3 (by simp)); have LL1 := Nat.lt_of_lt_of_le L1 k2.size; have LL2 := Nat.lt_of_lt_of_le L2 k2.size; have u0 := (k3.cell (p := ⟨w.heap.size, 0, none⟩) LL1 (by simp)).trans q0; have u1 := (k3.cell (p := ⟨w.heap.size, 1, none⟩) LL1 (by simp)).trans q1; have u2 := (k3.cell (p := ⟨w.heap.size, 2, none⟩) LL1 (by simp)).trans q2; have v0 := (k3.cell (p := ⟨w.heap.size + 1, 0, none⟩) LL2 (by simp)).trans r0; have v1 := (k3.cell (p := ⟨w.heap.size + 1, 1, none⟩) LL2 (by simp)).trans r1; have v2 := (k3.cell (p := ⟨w.heap.size + 1, 2, none⟩) LL2 (by simp)).trans r2))
  all_goals
    go_wp2_with fail
    go_ret
    exact ⟨rfl, K3.out⟩
end Go.Proofs.Ybulkdwc
