/-
  Seat b0236a: zzs0236bref (7).
-/
import Derived.Test.YbulkdwcBits
import Derived.WalkKit
import Derived.Deep.QuietTactic
import Derived.BigQuiet
import Derived.Outline
namespace Go.Proofs.Ybulkdwc
open Go.RowKit Go.Lib

/-- the state of the outer loop ahead of round k: the running pair (a, b), and that what is done fits -/
def St (P X p a b : Nat) : Prop := a < 4294967296 ∧ b < 4294967296 ∧ ∃ L, L < P ∧ L + P * (a + 4294967296 * b) = X * p

theorem grown_drewN {W w' : World} {n : Nat} (h : Grown W w') : Grown W (w'.drewN n) := h
theorem below_dN {B : Nat} {a w : World} {n : Nat} (h : Below B a w) : Below B a (w.drewN n) := ⟨h.os, h.tape, h.output, h.size, h.block⟩
theorem or_words (a b : Nat) (ha : a < 4294967296) (hb : b < 4294967296) : bits .or .u64 (a : Int) ((b : Int) * 4294967296) = ((a + 4294967296 * b : Nat) : Int) := by
  have h := bits_or_u64_nat a (b * 4294967296) (by omega) (by omega)
  have e : a ||| b * 4294967296 = a + 4294967296 * b := by
    have := Nat.shiftLeft_add_eq_or_of_lt (b := a) (i := 32) (by omega : a < 2 ^ 32) b
    rw [Nat.shiftLeft_eq, show (2 : Nat) ^ 32 = 4294967296 from rfl] at this
    rw [Nat.or_comm]
    omega
  rw [e] at h
  rw [← h]
  congr 1

set_option maxHeartbeats 1000000 in
theorem ref_any (hi lo p : Nat) (h1 : hi < 18446744073709551616) (h2 : lo < 18446744073709551616) (h3 : p < 18446744073709551616) (w : World) :
    Calls Yba.prog 7 #[.int .u64 hi, .int .u64 lo, .int .u64 p] w fun e w' => e = .returned (.int .u64 (pos hi lo p : Nat)) ∧ Grown w w' ∧ Below w.heap.size w w' := by
  obtain ⟨x0, X0⟩ : ∃ x0, lo % 4294967296 = x0 := ⟨_, rfl⟩
  obtain ⟨x1, X1⟩ : ∃ x1, lo / 4294967296 = x1 := ⟨_, rfl⟩
  obtain ⟨x2, X2⟩ : ∃ x2, hi % 4294967296 = x2 := ⟨_, rfl⟩
  obtain ⟨x3, X3⟩ : ∃ x3, hi / 4294967296 = x3 := ⟨_, rfl⟩
  obtain ⟨y0, Y0⟩ : ∃ y0, p % 4294967296 = y0 := ⟨_, rfl⟩
  obtain ⟨y1, Y1⟩ : ∃ y1, p / 4294967296 = y1 := ⟨_, rfl⟩
  have bx0 : x0 < 4294967296 := by omega
  have bx1 : x1 < 4294967296 := by omega
  have bx2 : x2 < 4294967296 := by omega
  have bx3 : x3 < 4294967296 := by omega
  have by0 : y0 < 4294967296 := by omega
  have by1 : y1 < 4294967296 := by omega
  have EH : Hid (hi = x2 + 4294967296 * x3) := by subst X2 X3; exact (sc_word hi).symm
  have EL : Hid (lo = x0 + 4294967296 * x1) := by subst X0 X1; exact (sc_word lo).symm
  have EP : Hid (p = y0 + 4294967296 * y1) := by subst Y0 Y1; exact (sc_word p).symm
  have HX0 : Hid (lo % 4294967296 = x0) := X0
  have HX1 : Hid (lo / 4294967296 = x1) := X1
  have HX2 : Hid (hi % 4294967296 = x2) := X2
  have HX3 : Hid (hi / 4294967296 = x3) := X3
  have HY0 : Hid (p % 4294967296 = y0) := Y0
  have HY1 : Hid (p / 4294967296 = y1) := Y1
  clear X0 X1 X2 X3 Y0 Y1
  go_enter Yba.func7, Yba.ntmps7
  go_wp2
  simp only [Mul64.maskN lo h2, Mul64.maskN hi h1, Mul64.maskN p h3, Mul64.divN, HX0.out, HX1.out, HX2.out, HX3.out, HY0.out, HY1.out]
  clear HX0 HX1 HX2 HX3 HY0 HY1
  go_loopw [10] (fun i wr => ∃ (k q r0 r1 r2 r3 r4 r5 : Nat), k ≤ 4 ∧ i = .int .i64 k ∧
      wr = (((w.alloc (.cells #[.int .u64 x0, .int .u64 x1, .int .u64 x2, .int .u64 x3] 88)).alloc (.cells #[.int .u64 y0, .int .u64 y1] 33)).alloc (.cells #[.int .u64 r0, .int .u64 r1, .int .u64 r2, .int .u64 r3, .int .u64 r4, .int .u64 r5] 89)).drewN q ∧
      (k = 0 → St 1 0 p r0 r1) ∧ (k = 1 → St 4294967296 x0 p r1 r2) ∧ (k = 2 → St 18446744073709551616 lo p r2 r3) ∧ (k = 3 → St 79228162514264337593543950336 (x2 * 18446744073709551616 + lo) p r3 r4) ∧ (k = 4 → St 340282366920938463463374607431768211456 (hi * 18446744073709551616 + lo) p r4 r5))
    (fun i _ => 4 - (intOf i).toNat)
  case atStart =>
    refine ⟨0, 0, 0, 0, 0, 0, 0, 0, by omega, rfl, rfl, fun _ => ⟨by omega, by omega, 0, by omega, by simp⟩, ?_, ?_, ?_, ?_⟩ <;> (intro h; exact absurd h (by decide))
  case round =>
    obtain ⟨k, q, r0, r1, r2, r3, r4, r5, hk, rfl, rfl, s0, s1, s2, s3, s4⟩ := hrel
    have hk' : k = 0 ∨ k = 1 ∨ k = 2 ∨ k = 3 ∨ k = 4 := by omega
    have hsd : ∀ (w : World) (n : Nat) (a : Addr) (v : Value), (w.drewN n).setCell a v = (w.setCell a v).drewN n := fun _ _ _ _ => rfl
    rcases hk' with rfl | rfl | rfl | rfl | rfl
    · obtain ⟨ba, bb, L, hL, hs⟩ := s0 rfl
      clear s0 s1 s2 s3 s4 hk
      rw [EP.out] at hs
      have S : Hid (L + 1 * (r0 + 4294967296 * r1) = 0 * (y0 + 4294967296 * y1)) := hs
      clear hs
      have HX : Hid (0 + 1 * x0 = x0) := by have e1 := EH.out; have e2 := EL.out; show 0 + 1 * x0 = x0; omega
      have m1 : x0 * y0 < 18446744073709551616 := sc_t1 (a := 0) bx0 by0 (by omega)
      have m2 : x0 * y1 < 18446744073709551616 := sc_t1 (a := 0) bx0 by1 (by omega)
      have m3 : x0 * y0 + r0 < 18446744073709551616 := sc_t1 bx0 by0 ba
      go_wp2
      refine wp_loop_rounds 3 ?_
      rw [rounds_succ]
      go_wp2
      go_quiet (fail)
      simp only [Mul64.mulN, Mul64.addN]
      obtain ⟨t1, ht1⟩ : ∃ t1, t1 = x0 * y0 + r0 := ⟨_, rfl⟩
      rw [← ht1]
      rw [← ht1] at m3
      have T1 : Hid (t1 = x0 * y0 + r0) := ht1
      clear ht1
      go_wp2
      simp only [Mul64.maskN _ m3, Mul64.divN]
      have bc : t1 / 4294967296 < 4294967296 := by omega
      have m4 : x0 * y1 + r1 < 18446744073709551616 := sc_t1 bx0 by1 bb
      have m5 : x0 * y1 + r1 + t1 / 4294967296 < 18446744073709551616 := sc_t2 bx0 by1 bb bc
      obtain ⟨c1, hc1⟩ : ∃ c1, c1 = t1 / 4294967296 := ⟨_, rfl⟩
      obtain ⟨d1, hd1⟩ : ∃ d1, d1 = t1 % 4294967296 := ⟨_, rfl⟩
      rw [← hc1, ← hd1]
      rw [← hc1] at m5
      have C1 : Hid (c1 = t1 / 4294967296) := hc1
      have D1 : Hid (d1 = t1 % 4294967296) := hd1
      clear hc1 hd1 bc
      rw [rounds_succ]
      go_wp2
      go_quiet (fail)
      simp only [Mul64.mulN, Mul64.addN]
      obtain ⟨t2, ht2⟩ : ∃ t2, t2 = x0 * y1 + r1 + c1 := ⟨_, rfl⟩
      rw [← ht2]
      rw [← ht2] at m5
      have T2 : Hid (t2 = x0 * y1 + r1 + c1) := ht2
      clear ht2 m1 m2 m4
      go_wp2
      simp only [Mul64.maskN _ m5, Mul64.divN]
      rw [rounds_succ]
      go_wp2
      have hE := sc_step L 1 r0 r1 x0 y0 y1 0 t1 t2 S.out hL T1.out (by rw [← C1.out]; exact T2.out)
      go_roundw
      case rel => exact ⟨1, _, d1, (t2 % 4294967296), (t2 / 4294967296), r3, r4, r5, by omega, rfl, rfl, fun h => absurd h (by omega), fun _ => ⟨by omega, by omega, L + 1 * (t1 % 4294967296), hE.2, by rw [EP.out]; rw [← HX]; exact hE.1⟩, fun h => absurd h (by omega), fun h => absurd h (by omega), fun h => absurd h (by omega)⟩
      case measure => simp [intOf]
    · obtain ⟨ba, bb, L, hL, hs⟩ := s1 rfl
      clear s0 s1 s2 s3 s4 hk
      rw [EP.out] at hs
      have S : Hid (L + 4294967296 * (r1 + 4294967296 * r2) = x0 * (y0 + 4294967296 * y1)) := hs
      clear hs
      have HX : Hid (x0 + 4294967296 * x1 = lo) := by have e1 := EH.out; have e2 := EL.out; show x0 + 4294967296 * x1 = lo; omega
      have m1 : x1 * y0 < 18446744073709551616 := sc_t1 (a := 0) bx1 by0 (by omega)
      have m2 : x1 * y1 < 18446744073709551616 := sc_t1 (a := 0) bx1 by1 (by omega)
      have m3 : x1 * y0 + r1 < 18446744073709551616 := sc_t1 bx1 by0 ba
      go_wp2
      refine wp_loop_rounds 3 ?_
      rw [rounds_succ]
      go_wp2
      go_quiet (fail)
      simp only [Mul64.mulN, Mul64.addN]
      obtain ⟨t1, ht1⟩ : ∃ t1, t1 = x1 * y0 + r1 := ⟨_, rfl⟩
      rw [← ht1]
      rw [← ht1] at m3
      have T1 : Hid (t1 = x1 * y0 + r1) := ht1
      clear ht1
      go_wp2
      simp only [Mul64.maskN _ m3, Mul64.divN]
      have bc : t1 / 4294967296 < 4294967296 := by omega
      have m4 : x1 * y1 + r2 < 18446744073709551616 := sc_t1 bx1 by1 bb
      have m5 : x1 * y1 + r2 + t1 / 4294967296 < 18446744073709551616 := sc_t2 bx1 by1 bb bc
      obtain ⟨c1, hc1⟩ : ∃ c1, c1 = t1 / 4294967296 := ⟨_, rfl⟩
      obtain ⟨d1, hd1⟩ : ∃ d1, d1 = t1 % 4294967296 := ⟨_, rfl⟩
      rw [← hc1, ← hd1]
      rw [← hc1] at m5
      have C1 : Hid (c1 = t1 / 4294967296) := hc1
      have D1 : Hid (d1 = t1 % 4294967296) := hd1
      clear hc1 hd1 bc
      rw [rounds_succ]
      go_wp2
      go_quiet (fail)
      simp only [Mul64.mulN, Mul64.addN]
      obtain ⟨t2, ht2⟩ : ∃ t2, t2 = x1 * y1 + r2 + c1 := ⟨_, rfl⟩
      rw [← ht2]
      rw [← ht2] at m5
      have T2 : Hid (t2 = x1 * y1 + r2 + c1) := ht2
      clear ht2 m1 m2 m4
      go_wp2
      simp only [Mul64.maskN _ m5, Mul64.divN]
      rw [rounds_succ]
      go_wp2
      have hE := sc_step L 4294967296 r1 r2 x1 y0 y1 x0 t1 t2 S.out hL T1.out (by rw [← C1.out]; exact T2.out)
      go_roundw
      case rel => exact ⟨2, _, r0, d1, (t2 % 4294967296), (t2 / 4294967296), r4, r5, by omega, rfl, rfl, fun h => absurd h (by omega), fun h => absurd h (by omega), fun _ => ⟨by omega, by omega, L + 4294967296 * (t1 % 4294967296), hE.2, by rw [EP.out]; rw [← HX]; exact hE.1⟩, fun h => absurd h (by omega), fun h => absurd h (by omega)⟩
      case measure => simp [intOf]
    · obtain ⟨ba, bb, L, hL, hs⟩ := s2 rfl
      clear s0 s1 s2 s3 s4 hk
      rw [EP.out] at hs
      have S : Hid (L + 18446744073709551616 * (r2 + 4294967296 * r3) = lo * (y0 + 4294967296 * y1)) := hs
      clear hs
      have HX : Hid (lo + 18446744073709551616 * x2 = x2 * 18446744073709551616 + lo) := by have e1 := EH.out; have e2 := EL.out; show lo + 18446744073709551616 * x2 = x2 * 18446744073709551616 + lo; omega
      have m1 : x2 * y0 < 18446744073709551616 := sc_t1 (a := 0) bx2 by0 (by omega)
      have m2 : x2 * y1 < 18446744073709551616 := sc_t1 (a := 0) bx2 by1 (by omega)
      have m3 : x2 * y0 + r2 < 18446744073709551616 := sc_t1 bx2 by0 ba
      go_wp2
      refine wp_loop_rounds 3 ?_
      rw [rounds_succ]
      go_wp2
      go_quiet (fail)
      simp only [Mul64.mulN, Mul64.addN]
      obtain ⟨t1, ht1⟩ : ∃ t1, t1 = x2 * y0 + r2 := ⟨_, rfl⟩
      rw [← ht1]
      rw [← ht1] at m3
      have T1 : Hid (t1 = x2 * y0 + r2) := ht1
      clear ht1
      go_wp2
      simp only [Mul64.maskN _ m3, Mul64.divN]
      have bc : t1 / 4294967296 < 4294967296 := by omega
      have m4 : x2 * y1 + r3 < 18446744073709551616 := sc_t1 bx2 by1 bb
      have m5 : x2 * y1 + r3 + t1 / 4294967296 < 18446744073709551616 := sc_t2 bx2 by1 bb bc
      obtain ⟨c1, hc1⟩ : ∃ c1, c1 = t1 / 4294967296 := ⟨_, rfl⟩
      obtain ⟨d1, hd1⟩ : ∃ d1, d1 = t1 % 4294967296 := ⟨_, rfl⟩
      rw [← hc1, ← hd1]
      rw [← hc1] at m5
      have C1 : Hid (c1 = t1 / 4294967296) := hc1
      have D1 : Hid (d1 = t1 % 4294967296) := hd1
      clear hc1 hd1 bc
      rw [rounds_succ]
      go_wp2
      go_quiet (fail)
      simp only [Mul64.mulN, Mul64.addN]
      obtain ⟨t2, ht2⟩ : ∃ t2, t2 = x2 * y1 + r3 + c1 := ⟨_, rfl⟩
      rw [← ht2]
      rw [← ht2] at m5
      have T2 : Hid (t2 = x2 * y1 + r3 + c1) := ht2
      clear ht2 m1 m2 m4
      go_wp2
      simp only [Mul64.maskN _ m5, Mul64.divN]
      rw [rounds_succ]
      go_wp2
      have hE := sc_step L 18446744073709551616 r2 r3 x2 y0 y1 lo t1 t2 S.out hL T1.out (by rw [← C1.out]; exact T2.out)
      go_roundw
      case rel => exact ⟨3, _, r0, r1, d1, (t2 % 4294967296), (t2 / 4294967296), r5, by omega, rfl, rfl, fun h => absurd h (by omega), fun h => absurd h (by omega), fun h => absurd h (by omega), fun _ => ⟨by omega, by omega, L + 18446744073709551616 * (t1 % 4294967296), hE.2, by rw [EP.out]; rw [← HX]; exact hE.1⟩, fun h => absurd h (by omega)⟩
      case measure => simp [intOf]
    · obtain ⟨ba, bb, L, hL, hs⟩ := s3 rfl
      clear s0 s1 s2 s3 s4 hk
      rw [EP.out] at hs
      have S : Hid (L + 79228162514264337593543950336 * (r3 + 4294967296 * r4) = (x2 * 18446744073709551616 + lo) * (y0 + 4294967296 * y1)) := hs
      clear hs
      have HX : Hid ((x2 * 18446744073709551616 + lo) + 79228162514264337593543950336 * x3 = hi * 18446744073709551616 + lo) := by have e1 := EH.out; have e2 := EL.out; show (x2 * 18446744073709551616 + lo) + 79228162514264337593543950336 * x3 = hi * 18446744073709551616 + lo; omega
      have m1 : x3 * y0 < 18446744073709551616 := sc_t1 (a := 0) bx3 by0 (by omega)
      have m2 : x3 * y1 < 18446744073709551616 := sc_t1 (a := 0) bx3 by1 (by omega)
      have m3 : x3 * y0 + r3 < 18446744073709551616 := sc_t1 bx3 by0 ba
      go_wp2
      refine wp_loop_rounds 3 ?_
      rw [rounds_succ]
      go_wp2
      go_quiet (fail)
      simp only [Mul64.mulN, Mul64.addN]
      obtain ⟨t1, ht1⟩ : ∃ t1, t1 = x3 * y0 + r3 := ⟨_, rfl⟩
      rw [← ht1]
      rw [← ht1] at m3
      have T1 : Hid (t1 = x3 * y0 + r3) := ht1
      clear ht1
      go_wp2
      simp only [Mul64.maskN _ m3, Mul64.divN]
      have bc : t1 / 4294967296 < 4294967296 := by omega
      have m4 : x3 * y1 + r4 < 18446744073709551616 := sc_t1 bx3 by1 bb
      have m5 : x3 * y1 + r4 + t1 / 4294967296 < 18446744073709551616 := sc_t2 bx3 by1 bb bc
      obtain ⟨c1, hc1⟩ : ∃ c1, c1 = t1 / 4294967296 := ⟨_, rfl⟩
      obtain ⟨d1, hd1⟩ : ∃ d1, d1 = t1 % 4294967296 := ⟨_, rfl⟩
      rw [← hc1, ← hd1]
      rw [← hc1] at m5
      have C1 : Hid (c1 = t1 / 4294967296) := hc1
      have D1 : Hid (d1 = t1 % 4294967296) := hd1
      clear hc1 hd1 bc
      rw [rounds_succ]
      go_wp2
      go_quiet (fail)
      simp only [Mul64.mulN, Mul64.addN]
      obtain ⟨t2, ht2⟩ : ∃ t2, t2 = x3 * y1 + r4 + c1 := ⟨_, rfl⟩
      rw [← ht2]
      rw [← ht2] at m5
      have T2 : Hid (t2 = x3 * y1 + r4 + c1) := ht2
      clear ht2 m1 m2 m4
      go_wp2
      simp only [Mul64.maskN _ m5, Mul64.divN]
      rw [rounds_succ]
      go_wp2
      have hE := sc_step L 79228162514264337593543950336 r3 r4 x3 y0 y1 (x2 * 18446744073709551616 + lo) t1 t2 S.out hL T1.out (by rw [← C1.out]; exact T2.out)
      go_roundw
      case rel => exact ⟨4, _, r0, r1, r2, d1, (t2 % 4294967296), (t2 / 4294967296), by omega, rfl, rfl, fun h => absurd h (by omega), fun h => absurd h (by omega), fun h => absurd h (by omega), fun h => absurd h (by omega), fun _ => ⟨by omega, by omega, L + 79228162514264337593543950336 * (t1 % 4294967296), hE.2, by rw [EP.out]; rw [← HX]; exact hE.1⟩⟩
      case measure => simp [intOf]
    · obtain ⟨ba, bb, L, hL, hs⟩ := s4 rfl
      clear s0 s1 s2 s3 s4 hk
      have HE : Hid (r4 + 4294967296 * r5 = pos hi lo p) := sc_end L r4 r5 p hi lo hs hL
      clear hs
      go_wp2
      rw [or_words r4 r5 ba bb, HE.out]
      go_ret
      exact ⟨rfl, grown_drewN (Grown.alloc (Grown.alloc (Grown.alloc (Grown.refl _) _ _) _ _) _ _), below_dN ((((Below.refl _ _).alloc (Nat.le_refl _) _).alloc (by simp) _).alloc (by simp; omega) _)⟩
end Go.Proofs.Ybulkdwc
