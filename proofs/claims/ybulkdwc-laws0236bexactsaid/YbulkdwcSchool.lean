/-
  Seat b0236a: the plain arithmetic of the school multiplication over words of 32 bits. No Go in sight.
-/
import Derived.Lib.Mul64
namespace Go.Proofs.Ybulkdwc

theorem sc_t1 {x y a : Nat} (hx : x < 4294967296) (hy : y < 4294967296) (ha : a < 4294967296) : x * y + a < 18446744073709551616 := by
  have := Go.Lib.half_mul_le (a := x) (b := y) (by omega) (by omega)
  omega
theorem sc_t2 {x y b c : Nat} (hx : x < 4294967296) (hy : y < 4294967296) (hb : b < 4294967296) (hc : c < 4294967296) : x * y + b + c < 18446744073709551616 := by
  have := Go.Lib.half_mul_le (a := x) (b := y) (by omega) (by omega)
  omega

/-- one row of the school method: the digit that is done goes to L, the running pair goes on -/
theorem sc_step (L P a b x y0 y1 X t1 t2 : Nat) (h : L + P * (a + 4294967296 * b) = X * (y0 + 4294967296 * y1)) (hL : L < P) (e1 : t1 = x * y0 + a) (e2 : t2 = x * y1 + b + t1 / 4294967296) :
    (L + P * (t1 % 4294967296)) + P * 4294967296 * (t2 % 4294967296 + 4294967296 * (t2 / 4294967296)) = (X + P * x) * (y0 + 4294967296 * y1) ∧ L + P * (t1 % 4294967296) < P * 4294967296 := by
  have f1 : t1 % 4294967296 + 4294967296 * (t1 / 4294967296) = t1 := Nat.mod_add_div t1 4294967296
  have f2 : t2 % 4294967296 + 4294967296 * (t2 / 4294967296) = t2 := Nat.mod_add_div t2 4294967296
  have f3 : t1 % 4294967296 < 4294967296 := Nat.mod_lt _ (by omega)
  rw [f2]
  generalize t1 % 4294967296 = d at *
  generalize t1 / 4294967296 = c at *
  subst e2
  refine ⟨by grind, ?_⟩
  have : P * (d + 1) ≤ P * 4294967296 := Nat.mul_le_mul_left _ (by omega)
  rw [Nat.mul_add] at this
  omega

def pos (hi lo p : Nat) : Nat := (hi * p + lo * p / 18446744073709551616) / 18446744073709551616

theorem sc_end (L a b p hi lo : Nat) (h : L + 340282366920938463463374607431768211456 * (a + 4294967296 * b) = (hi * 18446744073709551616 + lo) * p) (hL : L < 340282366920938463463374607431768211456) :
    a + 4294967296 * b = pos hi lo p := by
  have e : (hi * 18446744073709551616 + lo) * p = hi * p * 18446744073709551616 + lo * p := by rw [Nat.add_mul, Nat.mul_right_comm]
  unfold pos
  rw [e] at h
  generalize hi * p = A at *
  generalize lo * p = C at *
  omega

theorem sc_word (x : Nat) : x % 4294967296 + 4294967296 * (x / 4294967296) = x := Nat.mod_add_div _ _
end Go.Proofs.Ybulkdwc
