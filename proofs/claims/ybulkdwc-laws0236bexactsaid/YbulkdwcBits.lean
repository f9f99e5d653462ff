/-
  Seat b0236a: contracts of math/bits.Mul64 (12: after the shelf's own text, at this dump), math/bits.Add64 (13), positionOf (6).
-/
import Derived.Test.YbulkdwcProg
import Derived.WalkKit
import Derived.Lib.Mul64
import Derived.Laws.Bits64b
import Derived.Laws.Externs
import Derived.Shelf.Bits.Mul64
import Derived.Test.YbulkdwcSchool
namespace Go.Proofs.Ybulkdwc
open Go.RowKit Go.Lib

set_option maxHeartbeats 1000000 in
theorem mul64 (x y : Nat) (hx : x < 18446744073709551616) (hy : y < 18446744073709551616) (w : World) :
    Calls Yba.prog 12 #[.int .u64 x, .int .u64 y] w fun e w' => e = .returned (.tuple #[.int .u64 ((x * y / 18446744073709551616 : Nat) : Int), .int .u64 ((x * y % 18446744073709551616 : Nat) : Int)]) ∧ w = w' := by
  obtain ⟨bd, bt, bw, hhi⟩ := Lib.mul64_hi x y hx hy
  have ba := Lib.half_mul_le (a := x / 4294967296) (b := y / 4294967296) (by omega) (by omega)
  have bb := Lib.half_mul_le (a := x / 4294967296) (b := y % 4294967296) (by omega) (by omega)
  have bc := Lib.half_mul_le (a := x % 4294967296) (b := y / 4294967296) (by omega) (by omega)
  have ba' : x / 4294967296 * (y / 4294967296) < 18446744073709551616 := by omega
  have bb' : x / 4294967296 * (y % 4294967296) < 18446744073709551616 := by omega
  have bc' : x % 4294967296 * (y / 4294967296) < 18446744073709551616 := by omega
  have bh1 : x / 4294967296 * (y / 4294967296) + (x / 4294967296 * (y % 4294967296) + x % 4294967296 * (y % 4294967296) / 4294967296) / 4294967296 < 18446744073709551616 := by omega
  have bh : x / 4294967296 * (y / 4294967296) + (x / 4294967296 * (y % 4294967296) + x % 4294967296 * (y % 4294967296) / 4294967296) / 4294967296 + ((x / 4294967296 * (y % 4294967296) + x % 4294967296 * (y % 4294967296) / 4294967296) % 4294967296 + x % 4294967296 * (y / 4294967296)) / 4294967296 < 18446744073709551616 := by omega
  go_enter Yba.func12, Yba.ntmps12
  go_wp2
  simp only [Mul64.maskN x hx, Mul64.maskN y hy, Mul64.divN, Mul64.mulN, Mul64.addN, Mul64.wrapN _ bd, Mul64.wrapN _ bb', Mul64.wrapN _ bt, Mul64.maskN _ bt, Mul64.wrapN _ bc', Mul64.wrapN _ bw, Mul64.wrapN _ ba', Mul64.wrapN _ bh1, Mul64.wrapN _ bh, Mul64.wrapM (x * y)]
  rw [hhi]
  go_ret2
  exact ⟨rfl, rfl⟩

theorem add64_0 (x y : Int) (hx : 0 ≤ x) (hy : 0 ≤ y) (w : World) :
    (callFunc 13 #[.int .u64 x, .int .u64 y, .int .u64 0]).run Yba.prog w =
      .ok (.value (.tuple #[.int .u64 ((x + y) % 18446744073709551616), .int .u64 ((x + y) / 18446744073709551616)])) w := by
  rw [run_callFunc_extern Yba.func13 (by kernel_rfl) (by kernel_rfl) (by kernel_rfl) (e := add64Entry) (by kernel_rfl), run_add64 x y 0 hx hy (by omega) (by omega)]
  simp only [Result.andThen, Int.add_zero]


theorem pos_eq (hi lo p : Nat) (h1 : hi < 18446744073709551616) (h2 : lo < 18446744073709551616) (h3 : p < 18446744073709551616) :
    IntKind.u64.wrap (((hi * p / 18446744073709551616 : Nat) : Int) + (((hi * p % 18446744073709551616 : Nat) : Int) + ((lo * p / 18446744073709551616 : Nat) : Int)) / 18446744073709551616) = (pos hi lo p : Nat) := by
  have b1 : hi * p ≤ 18446744073709551615 * 18446744073709551615 := Nat.mul_le_mul (by omega) (by omega)
  have b2 : lo * p ≤ 18446744073709551615 * 18446744073709551615 := Nat.mul_le_mul (by omega) (by omega)
  unfold pos
  rw [IntKind.wrap_u64]
  generalize hi * p = a at *
  generalize lo * p = b at *
  omega

set_option maxHeartbeats 1000000 in
theorem position_any (b hi lo p : Nat) (h1 : hi < 18446744073709551616) (h2 : lo < 18446744073709551616) (h3 : p < 18446744073709551616) (w : World) (hc : w.cell? ⟨b, 121, none⟩ = some (.int .u64 (p : Int))) :
    Calls Yba.prog 6 #[.pointer (some ⟨b, 0, none⟩), .int .u64 hi, .int .u64 lo] w fun e w' => e = .returned (.int .u64 (pos hi lo p : Nat)) ∧ w = w' := by
  have HP := pos_eq hi lo p h1 h2 h3
  have HP' : Hid _ := HP
  clear HP
  go_enter Yba.func6, Yba.ntmps6
  go_wp2_with fail
  refine (mul64 hi p h1 h3 _).mono ?_
  rintro e w1 ⟨rfl, rfl⟩
  have n1 : 0 ≤ ((hi * p % 18446744073709551616 : Nat) : Int) := by omega
  have n2 : 0 ≤ ((lo * p / 18446744073709551616 : Nat) : Int) := by omega
  generalize ((hi * p % 18446744073709551616 : Nat) : Int) = A at *
  generalize ((hi * p / 18446744073709551616 : Nat) : Int) = B at *
  go_wp2_with fail
  refine (mul64 lo p h2 h3 _).mono ?_
  rintro e w1 ⟨rfl, rfl⟩
  generalize ((lo * p / 18446744073709551616 : Nat) : Int) = C at *
  generalize ((lo * p % 18446744073709551616 : Nat) : Int) = D at *
  go_wp2_with (simp only [add64_0 A C n1 n2])
  go_ret
  exact ⟨by rw [← HP'.out]; rfl, rfl⟩
end Go.Proofs.Ybulkdwc
