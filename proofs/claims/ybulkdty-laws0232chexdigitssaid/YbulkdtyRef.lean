/-
  Seat b0232a: appendRef (8).
-/
import Derived.Test.YbulkdtyHex
namespace Go.Proofs.Ybulkdty
open Go.RowKit

set_option maxHeartbeats 1000000 in
set_option maxRecDepth 100000 in
theorem ref_short (B n hi lo : Nat) (m : Int) (h2 : lo < 18446744073709551616) (hm : (bits BinOp.and IntKind.u8 m 32 != 0) = false) (sv : Value) (xs : List Value) (w : World) (hown : w.ownsRow B 5 1 sv n xs) (hBw : B ≤ w.heap.size) (hlim : n + 32 ≤ 140737488355328) :
    Calls Yba.prog 8 #[sv, .agg #[.int .u64 hi, .int .u64 lo], .int .u8 m] w fun e w' => ∃ v', e = .returned v' ∧ w'.ownsRow B 5 1 v' (n + 16) ((xs ++ hx (lo / 4294967296)) ++ hx (lo % 4294967296)) ∧ Below B w w' := by
  have q1 : ((lo : Int) / 4294967296).toNat = lo / 4294967296 := by omega
  have q2 : ((lo : Int) % 4294967296).toNat = lo % 4294967296 := by omega
  have Q1 : Hid (_ = _) := q1
  have Q2 : Hid (_ = _) := q2
  clear q1 q2
  go_enter Yba.func8, Yba.ntmps8
  go_wp2_with fail
  obtain ⟨W1, e1, o1, r1⟩ := ref_start (hi := hi) (lo := lo) hown hBw
  rw [← e1]
  clear e1
  refine (append8_int B n ((lo : Int) / 4294967296) (by omega) (by omega) sv xs W1 o1 r1.size (by omega)).mono ?_
  rintro e W2 ⟨v2, rfl, o2, g2⟩
  have r2 := r1.step o1 g2
  obtain ⟨c20, c21⟩ := box_cells r2.box
  go_wp2_with fail
  refine (append8_int B (n + 8) ((lo : Int) % 4294967296) (by omega) (by omega) v2 _ W2 o2 r2.size (by omega)).mono ?_
  rintro e W3 ⟨v3, rfl, o3, g3⟩
  have r3 := r2.step o2 g3
  go_wp2
  go_ret
  rw [Q1.out, Q2.out, show n + 8 + 8 = n + 16 from by omega] at o3
  exact ⟨v3, rfl, o3, r3.bel⟩

set_option maxHeartbeats 1000000 in
set_option maxRecDepth 100000 in
theorem ref_long (B n hi lo : Nat) (m : Int) (h1 : hi < 18446744073709551616) (h2 : lo < 18446744073709551616) (hm : (bits BinOp.and IntKind.u8 m 32 != 0) = true) (sv : Value) (xs : List Value) (w : World) (hown : w.ownsRow B 5 1 sv n xs) (hBw : B ≤ w.heap.size) (hlim : n + 32 ≤ 140737488355328) :
    Calls Yba.prog 8 #[sv, .agg #[.int .u64 hi, .int .u64 lo], .int .u8 m] w fun e w' => ∃ v', e = .returned v' ∧ w'.ownsRow B 5 1 v' (n + 32) ((((xs ++ hx (hi / 4294967296)) ++ hx (hi % 4294967296)) ++ hx (lo / 4294967296)) ++ hx (lo % 4294967296)) ∧ Below B w w' := by
  have q1 : ((lo : Int) / 4294967296).toNat = lo / 4294967296 := by omega
  have q2 : ((lo : Int) % 4294967296).toNat = lo % 4294967296 := by omega
  have q3 : ((hi : Int) / 4294967296).toNat = hi / 4294967296 := by omega
  have q4 : ((hi : Int) % 4294967296).toNat = hi % 4294967296 := by omega
  have Q1 : Hid (_ = _) := q1
  have Q2 : Hid (_ = _) := q2
  have Q3 : Hid (_ = _) := q3
  have Q4 : Hid (_ = _) := q4
  clear q1 q2 q3 q4
  go_enter Yba.func8, Yba.ntmps8
  go_wp2_with fail
  obtain ⟨W1, e1, o1, r1⟩ := ref_start (hi := hi) (lo := lo) hown hBw
  rw [← e1]
  clear e1
  refine (append8_int B n ((hi : Int) / 4294967296) (by omega) (by omega) sv xs W1 o1 r1.size (by omega)).mono ?_
  rintro e W2 ⟨v2, rfl, o2, g2⟩
  have r2 := r1.step o1 g2
  obtain ⟨c20, c21⟩ := box_cells r2.box
  clear g2 o1 r1
  go_wp2_with fail
  refine (append8_int B (n + 8) ((hi : Int) % 4294967296) (by omega) (by omega) v2 _ W2 o2 r2.size (by omega)).mono ?_
  rintro e W3 ⟨v3, rfl, o3, g3⟩
  have r3 := r2.step o2 g3
  obtain ⟨c30, c31⟩ := box_cells r3.box
  clear g3 o2 r2 c20 c21
  go_wp2_with fail
  refine (append8_int B (n + 8 + 8) ((lo : Int) / 4294967296) (by omega) (by omega) v3 _ W3 o3 r3.size (by omega)).mono ?_
  rintro e W4 ⟨v4, rfl, o4, g4⟩
  have r4 := r3.step o3 g4
  obtain ⟨c40, c41⟩ := box_cells r4.box
  clear g4 o3 r3 c30 c31
  go_wp2_with fail
  refine (append8_int B (n + 8 + 8 + 8) ((lo : Int) % 4294967296) (by omega) (by omega) v4 _ W4 o4 r4.size (by omega)).mono ?_
  rintro e W5 ⟨v5, rfl, o5, g5⟩
  have r5 := r4.step o4 g5
  go_wp2
  go_ret
  rw [Q1.out, Q2.out, Q3.out, Q4.out, show n + 8 + 8 + 8 + 8 = n + 32 from by omega] at o5
  exact ⟨v5, rfl, o5, r5.bel⟩
end Go.Proofs.Ybulkdty
