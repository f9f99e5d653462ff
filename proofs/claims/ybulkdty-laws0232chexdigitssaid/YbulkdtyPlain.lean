/-
  Seat b0232a: the plain arithmetic of hexWord: eight nibbles are spread into eight bytes and made into digits. No Go in sight.
-/
import Derived.Laws.Bits64b
namespace Go.Proofs.Ybulkdty

/-- nibbles, the least first -/
def V : List Nat → Nat
  | [] => 0
  | a :: l => a + 16 * V l

theorem lane {a x : Nat} (ha : a < 16) (i : Nat) : (a + 16 * x).testBit i = if i < 4 then a.testBit i else x.testBit (i - 4) := by
  have h := Nat.testBit_two_pow_mul_add x (b := a) (i := 4) (by omega) i
  rw [← h]
  congr 1
  omega
theorem and_cons {a b x y : Nat} (ha : a < 16) (hb : b < 16) : (a + 16 * x) &&& (b + 16 * y) = (a &&& b) + 16 * (x &&& y) := by
  have hc : a &&& b < 16 := Nat.and_lt_two_pow (n := 4) a (by omega)
  apply Nat.eq_of_testBit_eq
  intro i
  rw [Nat.testBit_and, lane ha, lane hb, lane hc]
  split <;> simp [Nat.testBit_and]
theorem or_cons {a b x y : Nat} (ha : a < 16) (hb : b < 16) : (a + 16 * x) ||| (b + 16 * y) = (a ||| b) + 16 * (x ||| y) := by
  have hc : a ||| b < 16 := Nat.or_lt_two_pow (n := 4) (by omega) (by omega)
  apply Nat.eq_of_testBit_eq
  intro i
  rw [Nat.testBit_or, lane ha, lane hb, lane hc]
  split <;> simp [Nat.testBit_or]
/-- one lane of '(x | y) & m', the mask's nibble 15 or 0 -/
theorem keep_cons {a b x y m : Nat} (ha : a < 16) (hb : b < 16) : ((a + 16 * x) ||| (b + 16 * y)) &&& (15 + 16 * m) = (a ||| b) + 16 * ((x ||| y) &&& m) := by
  have hc : a ||| b < 16 := Nat.or_lt_two_pow (n := 4) (by omega) (by omega)
  rw [or_cons ha hb, and_cons hc (by omega)]
  have : (a ||| b) &&& 15 = a ||| b := by
    have := Nat.and_two_pow_sub_one_eq_mod (a ||| b) 4
    simp at this
    omega
  rw [this]
theorem drop_cons {a b x y m : Nat} (ha : a < 16) (hb : b < 16) : ((a + 16 * x) ||| (b + 16 * y)) &&& (0 + 16 * m) = 0 + 16 * ((x ||| y) &&& m) := by
  have hc : a ||| b < 16 := Nat.or_lt_two_pow (n := 4) (by omega) (by omega)
  rw [or_cons ha hb, and_cons hc (by omega)]
  simp

theorem spread1 {n0 n1 n2 n3 n4 n5 n6 n7 : Nat} (h0 : n0 < 16) (h1 : n1 < 16) (h2 : n2 < 16) (h3 : n3 < 16) (h4 : n4 < 16) (h5 : n5 < 16) (h6 : n6 < 16) (h7 : n7 < 16) : (V [n0, n1, n2, n3, n4, n5, n6, n7] ||| V [n0, n1, n2, n3, n4, n5, n6, n7] * 65536) &&& 281470681808895 = V [n0, n1, n2, n3, 0, 0, 0, 0, n4, n5, n6, n7] := by
  have e : V [n0, n1, n2, n3, n4, n5, n6, n7] * 65536 = V [0, 0, 0, 0, n0, n1, n2, n3, n4, n5, n6, n7] := by simp only [V]; omega
  have e0 : V [n0, n1, n2, n3, n4, n5, n6, n7] = V [n0, n1, n2, n3, n4, n5, n6, n7, 0, 0, 0, 0] := by simp only [V]
  have em : (281470681808895 : Nat) = V [15, 15, 15, 15, 0, 0, 0, 0, 15, 15, 15, 15] := rfl
  rw [e, em, e0]
  simp only [V]
  rw [keep_cons h0 (by omega), keep_cons h1 (by omega), keep_cons h2 (by omega), keep_cons h3 (by omega), drop_cons h4 h0, drop_cons h5 h1, drop_cons h6 h2, drop_cons h7 h3, keep_cons (by omega) h4, keep_cons (by omega) h5, keep_cons (by omega) h6, keep_cons (by omega) h7]
  simp
theorem spread2 {n0 n1 n2 n3 n4 n5 n6 n7 : Nat} (h0 : n0 < 16) (h1 : n1 < 16) (h2 : n2 < 16) (h3 : n3 < 16) (h4 : n4 < 16) (h5 : n5 < 16) (h6 : n6 < 16) (h7 : n7 < 16) : (V [n0, n1, n2, n3, 0, 0, 0, 0, n4, n5, n6, n7] ||| V [n0, n1, n2, n3, 0, 0, 0, 0, n4, n5, n6, n7] * 256) &&& 71777214294589695 = V [n0, n1, 0, 0, n2, n3, 0, 0, n4, n5, 0, 0, n6, n7] := by
  have e : V [n0, n1, n2, n3, 0, 0, 0, 0, n4, n5, n6, n7] * 256 = V [0, 0, n0, n1, n2, n3, 0, 0, 0, 0, n4, n5, n6, n7] := by simp only [V]; omega
  have e0 : V [n0, n1, n2, n3, 0, 0, 0, 0, n4, n5, n6, n7] = V [n0, n1, n2, n3, 0, 0, 0, 0, n4, n5, n6, n7, 0, 0] := by simp only [V]
  have em : (71777214294589695 : Nat) = V [15, 15, 0, 0, 15, 15, 0, 0, 15, 15, 0, 0, 15, 15] := rfl
  rw [e, em, e0]
  simp only [V]
  rw [keep_cons h0 (by omega), keep_cons h1 (by omega), drop_cons h2 h0, drop_cons h3 h1, keep_cons (by omega) h2, keep_cons (by omega) h3, drop_cons (by omega) (by omega), drop_cons (by omega) (by omega),
    keep_cons h4 (by omega), keep_cons h5 (by omega), drop_cons h6 h4, drop_cons h7 h5, keep_cons (by omega) h6, keep_cons (by omega) h7]
  simp
theorem spread3 {n0 n1 n2 n3 n4 n5 n6 n7 : Nat} (h0 : n0 < 16) (h1 : n1 < 16) (h2 : n2 < 16) (h3 : n3 < 16) (h4 : n4 < 16) (h5 : n5 < 16) (h6 : n6 < 16) (h7 : n7 < 16) : (V [n0, n1, 0, 0, n2, n3, 0, 0, n4, n5, 0, 0, n6, n7] ||| V [n0, n1, 0, 0, n2, n3, 0, 0, n4, n5, 0, 0, n6, n7] * 16) &&& 1085102592571150095 = V [n0, 0, n1, 0, n2, 0, n3, 0, n4, 0, n5, 0, n6, 0, n7] := by
  have e : V [n0, n1, 0, 0, n2, n3, 0, 0, n4, n5, 0, 0, n6, n7] * 16 = V [0, n0, n1, 0, 0, n2, n3, 0, 0, n4, n5, 0, 0, n6, n7] := by simp only [V]; omega
  have e0 : V [n0, n1, 0, 0, n2, n3, 0, 0, n4, n5, 0, 0, n6, n7] = V [n0, n1, 0, 0, n2, n3, 0, 0, n4, n5, 0, 0, n6, n7, 0] := by simp only [V]
  have em : (1085102592571150095 : Nat) = V [15, 0, 15, 0, 15, 0, 15, 0, 15, 0, 15, 0, 15, 0, 15] := rfl
  rw [e, em, e0]
  simp only [V]
  rw [keep_cons h0 (by omega), drop_cons h1 h0, keep_cons (by omega) h1, drop_cons (by omega) (by omega), keep_cons h2 (by omega), drop_cons h3 h2, keep_cons (by omega) h3, drop_cons (by omega) (by omega),
    keep_cons h4 (by omega), drop_cons h5 h4, keep_cons (by omega) h5, drop_cons (by omega) (by omega), keep_cons h6 (by omega), drop_cons h7 h6, keep_cons (by omega) h7]
  simp

theorem one_cons {a x m : Nat} (ha : a < 16) : (a + 16 * x) &&& (1 + 16 * m) = a % 2 + 16 * (x &&& m) := by
  rw [and_cons ha (by omega)]
  have := Nat.and_two_pow_sub_one_eq_mod a 1
  simp at this
  simp
theorem none_cons {a x m : Nat} (ha : a < 16) : (a + 16 * x) &&& (0 + 16 * m) = 0 + 16 * (x &&& m) := by
  rw [and_cons ha (by omega)]
  simp

/-- the digit of a nibble -/
def hexc (n : Nat) : Nat := n + 48 + 39 * ((n + 6) / 16)
theorem hexc_lt {n : Nat} (h : n < 16) : hexc n < 256 := by unfold hexc; omega
/-- eight bytes, the least first -/
def W8 (a0 a1 a2 a3 a4 a5 a6 a7 : Nat) : Nat := a0 + 256 * (a1 + 256 * (a2 + 256 * (a3 + 256 * (a4 + 256 * (a5 + 256 * (a6 + 256 * a7))))))

theorem letters {n0 n1 n2 n3 n4 n5 n6 n7 : Nat} (h0 : n0 < 16) (h1 : n1 < 16) (h2 : n2 < 16) (h3 : n3 < 16) (h4 : n4 < 16) (h5 : n5 < 16) (h6 : n6 < 16) (h7 : n7 < 16) :
    ((V [n0, 0, n1, 0, n2, 0, n3, 0, n4, 0, n5, 0, n6, 0, n7] + 434041037028460038) / 16) &&& 72340172838076673 = W8 ((n0 + 6) / 16) ((n1 + 6) / 16) ((n2 + 6) / 16) ((n3 + 6) / 16) ((n4 + 6) / 16) ((n5 + 6) / 16) ((n6 + 6) / 16) ((n7 + 6) / 16) := by
  have e : (V [n0, 0, n1, 0, n2, 0, n3, 0, n4, 0, n5, 0, n6, 0, n7] + 434041037028460038) / 16 =
      V [(n0 + 6) / 16, (n1 + 6) % 16, (n1 + 6) / 16, (n2 + 6) % 16, (n2 + 6) / 16, (n3 + 6) % 16, (n3 + 6) / 16, (n4 + 6) % 16, (n4 + 6) / 16, (n5 + 6) % 16, (n5 + 6) / 16, (n6 + 6) % 16, (n6 + 6) / 16, (n7 + 6) % 16, (n7 + 6) / 16] := by
    simp only [V]; omega
  have em : (72340172838076673 : Nat) = V [1, 0, 1, 0, 1, 0, 1, 0, 1, 0, 1, 0, 1, 0, 1] := rfl
  rw [e, em]
  simp only [V]
  rw [one_cons (by omega), none_cons (by omega), one_cons (by omega), none_cons (by omega), one_cons (by omega), none_cons (by omega), one_cons (by omega), none_cons (by omega), one_cons (by omega), none_cons (by omega), one_cons (by omega), none_cons (by omega), one_cons (by omega), none_cons (by omega), one_cons (by omega)]
  have q0 : (n0 + 6) / 16 % 2 = (n0 + 6) / 16 := by omega
  have q1 : (n1 + 6) / 16 % 2 = (n1 + 6) / 16 := by omega
  have q2 : (n2 + 6) / 16 % 2 = (n2 + 6) / 16 := by omega
  have q3 : (n3 + 6) / 16 % 2 = (n3 + 6) / 16 := by omega
  have q4 : (n4 + 6) / 16 % 2 = (n4 + 6) / 16 := by omega
  have q5 : (n5 + 6) / 16 % 2 = (n5 + 6) / 16 := by omega
  have q6 : (n6 + 6) / 16 % 2 = (n6 + 6) / 16 := by omega
  have q7 : (n7 + 6) / 16 % 2 = (n7 + 6) / 16 := by omega
  rw [q0, q1, q2, q3, q4, q5, q6, q7]
  clear q0 q1 q2 q3 q4 q5 q6 q7 e em
  generalize (n0 + 6) / 16 = g0
  generalize (n1 + 6) / 16 = g1
  generalize (n2 + 6) / 16 = g2
  generalize (n3 + 6) / 16 = g3
  generalize (n4 + 6) / 16 = g4
  generalize (n5 + 6) / 16 = g5
  generalize (n6 + 6) / 16 = g6
  generalize (n7 + 6) / 16 = g7
  simp only [W8, Nat.and_zero]
  omega

theorem digits {n0 n1 n2 n3 n4 n5 n6 n7 : Nat} :
    V [n0, 0, n1, 0, n2, 0, n3, 0, n4, 0, n5, 0, n6, 0, n7] + 3472328296227680304 + W8 ((n0 + 6) / 16) ((n1 + 6) / 16) ((n2 + 6) / 16) ((n3 + 6) / 16) ((n4 + 6) / 16) ((n5 + 6) / 16) ((n6 + 6) / 16) ((n7 + 6) / 16) * 39
      = W8 (hexc n0) (hexc n1) (hexc n2) (hexc n3) (hexc n4) (hexc n5) (hexc n6) (hexc n7) := by
  simp only [V, W8, hexc]
  generalize (n0 + 6) / 16 = g0
  generalize (n1 + 6) / 16 = g1
  generalize (n2 + 6) / 16 = g2
  generalize (n3 + 6) / 16 = g3
  generalize (n4 + 6) / 16 = g4
  generalize (n5 + 6) / 16 = g5
  generalize (n6 + 6) / 16 = g6
  generalize (n7 + 6) / 16 = g7
  omega

theorem V_nil : V [] < 1 := by decide
theorem V_cons {a : Nat} {l : List Nat} {B : Nat} (ha : a < 16) (hl : V l < B) : V (a :: l) < 16 * B := by simp only [V]; omega
theorem bnd1 {n0 n1 n2 n3 n4 n5 n6 n7 : Nat} (h0 : n0 < 16) (h1 : n1 < 16) (h2 : n2 < 16) (h3 : n3 < 16) (h4 : n4 < 16) (h5 : n5 < 16) (h6 : n6 < 16) (h7 : n7 < 16) : V [n0, n1, n2, n3, 0, 0, 0, 0, n4, n5, n6, n7] < 281474976710656 := (V_cons h0 (V_cons h1 (V_cons h2 (V_cons h3 (V_cons (by omega) (V_cons (by omega) (V_cons (by omega) (V_cons (by omega) (V_cons h4 (V_cons h5 (V_cons h6 (V_cons h7 V_nil))))))))))))
theorem bnd2 {n0 n1 n2 n3 n4 n5 n6 n7 : Nat} (h0 : n0 < 16) (h1 : n1 < 16) (h2 : n2 < 16) (h3 : n3 < 16) (h4 : n4 < 16) (h5 : n5 < 16) (h6 : n6 < 16) (h7 : n7 < 16) : V [n0, n1, 0, 0, n2, n3, 0, 0, n4, n5, 0, 0, n6, n7] < 72057594037927936 := (V_cons h0 (V_cons h1 (V_cons (by omega) (V_cons (by omega) (V_cons h2 (V_cons h3 (V_cons (by omega) (V_cons (by omega) (V_cons h4 (V_cons h5 (V_cons (by omega) (V_cons (by omega) (V_cons h6 (V_cons h7 V_nil))))))))))))))
theorem bnd3 {n0 n1 n2 n3 n4 n5 n6 n7 : Nat} (h0 : n0 < 16) (h1 : n1 < 16) (h2 : n2 < 16) (h3 : n3 < 16) (h4 : n4 < 16) (h5 : n5 < 16) (h6 : n6 < 16) (h7 : n7 < 16) : V [n0, 0, n1, 0, n2, 0, n3, 0, n4, 0, n5, 0, n6, 0, n7] < 1152921504606846976 := (V_cons h0 (V_cons (by omega) (V_cons h1 (V_cons (by omega) (V_cons h2 (V_cons (by omega) (V_cons h3 (V_cons (by omega) (V_cons h4 (V_cons (by omega) (V_cons h5 (V_cons (by omega) (V_cons h6 (V_cons (by omega) (V_cons h7 V_nil)))))))))))))))
theorem bnd4 {n0 n1 n2 n3 n4 n5 n6 n7 : Nat} (_h0 : n0 < 2) (_h1 : n1 < 2) (_h2 : n2 < 2) (_h3 : n3 < 2) (_h4 : n4 < 2) (_h5 : n5 < 2) (_h6 : n6 < 2) (_h7 : n7 < 2) : W8 n0 n1 n2 n3 n4 n5 n6 n7 < 144115188075855872 := by simp only [W8]; omega
theorem W_cons {a x B : Nat} (ha : a < 256) (hx : x < B) : a + 256 * x < 256 * B := by omega
theorem W8_lt {a0 a1 a2 a3 a4 a5 a6 a7 : Nat} (h0 : a0 < 256) (h1 : a1 < 256) (h2 : a2 < 256) (h3 : a3 < 256) (h4 : a4 < 256) (h5 : a5 < 256) (h6 : a6 < 256) (h7 : a7 < 256) : W8 a0 a1 a2 a3 a4 a5 a6 a7 < 18446744073709551616 :=
  W_cons h0 (W_cons h1 (W_cons h2 (W_cons h3 (W_cons h4 (W_cons h5 (W_cons h6 h7))))))
theorem md {a x : Nat} (h : a < 256) : (a + 256 * x) % 256 = a := by omega
theorem dv {a x : Nat} (h : a < 256) : (a + 256 * x) / 256 = x := by omega
/-- the bytes of such a word -/
theorem W8_bytes {a0 a1 a2 a3 a4 a5 a6 a7 : Nat} (h0 : a0 < 256) (h1 : a1 < 256) (h2 : a2 < 256) (h3 : a3 < 256) (h4 : a4 < 256) (h5 : a5 < 256) (h6 : a6 < 256) (_h7 : a7 < 256) :
    W8 a0 a1 a2 a3 a4 a5 a6 a7 / 72057594037927936 = a7 ∧ W8 a0 a1 a2 a3 a4 a5 a6 a7 / 281474976710656 % 256 = a6 ∧ W8 a0 a1 a2 a3 a4 a5 a6 a7 / 1099511627776 % 256 = a5 ∧ W8 a0 a1 a2 a3 a4 a5 a6 a7 / 4294967296 % 256 = a4 ∧
    W8 a0 a1 a2 a3 a4 a5 a6 a7 / 16777216 % 256 = a3 ∧ W8 a0 a1 a2 a3 a4 a5 a6 a7 / 65536 % 256 = a2 ∧ W8 a0 a1 a2 a3 a4 a5 a6 a7 / 256 % 256 = a1 ∧ W8 a0 a1 a2 a3 a4 a5 a6 a7 % 256 = a0 := by
  have e1 : ∀ x : Nat, x / 65536 = x / 256 / 256 := fun x => by omega
  have e2 : ∀ x : Nat, x / 16777216 = x / 256 / 256 / 256 := fun x => by omega
  have e3 : ∀ x : Nat, x / 4294967296 = x / 256 / 256 / 256 / 256 := fun x => by omega
  have e4 : ∀ x : Nat, x / 1099511627776 = x / 256 / 256 / 256 / 256 / 256 := fun x => by omega
  have e5 : ∀ x : Nat, x / 281474976710656 = x / 256 / 256 / 256 / 256 / 256 / 256 := fun x => by omega
  have e6 : ∀ x : Nat, x / 72057594037927936 = x / 256 / 256 / 256 / 256 / 256 / 256 / 256 := fun x => by omega
  rw [e1, e2, e3, e4, e5, e6]
  simp only [W8, dv h0, dv h1, dv h2, dv h3, dv h4, dv h5, dv h6, md h0, md h1, md h2, md h3, md h4, md h5, md h6, and_self]
/-- nibble k of v -/
def nib (v k : Nat) : Nat := v / 16 ^ k % 16
theorem nib_lt (v k : Nat) : nib v k < 16 := Nat.mod_lt _ (by omega)
theorem nibs (v : Nat) (hv : v < 4294967296) : v = V [nib v 0, nib v 1, nib v 2, nib v 3, nib v 4, nib v 5, nib v 6, nib v 7] := by
  simp only [V, nib]
  omega
/-- what hexWord computes -/
def hexW (v : Nat) : Nat := W8 (hexc (nib v 0)) (hexc (nib v 1)) (hexc (nib v 2)) (hexc (nib v 3)) (hexc (nib v 4)) (hexc (nib v 5)) (hexc (nib v 6)) (hexc (nib v 7))
end Go.Proofs.Ybulkdty
