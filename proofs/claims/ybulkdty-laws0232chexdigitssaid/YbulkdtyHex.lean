/-
  Seat b0232a: the walks of hexWord (11), AppendUint64 (10), appendHex8 (9), appendRef (8).
-/
import Derived.Test.YbulkdtyProg
import Derived.Test.YbulkdtyPlain
import Derived.WalkKit
import Derived.OwnWalk
import Derived.RegionTactic
import Derived.Deep.Draws
import Derived.Deep.RegionWith
import Derived.ProofKit
namespace Go.Proofs.Ybulkdty
open Go.RowKit

theorem wrapN (a : Nat) (ha : a < 18446744073709551616) : IntKind.u64.wrap (a : Int) = (a : Int) := by rw [IntKind.wrap_u64]; omega
theorem stepN (A B M : Nat) (hA : A < 18446744073709551616) (hB : B < 18446744073709551616) (hM : M < 18446744073709551616) :
    bits .and .u64 (bits .or .u64 (A : Int) (B : Int)) (M : Int) = (((A ||| B) &&& M : Nat) : Int) := by
  rw [bits_or_u64_nat A B hA hB, bits_and_u64_nat _ M (Nat.or_lt_two_pow (n := 64) hA hB) hM]

/-- what the Go text reckons, as the walk spells it -/
theorem hexWord_eq (v : Nat) (hv : v < 4294967296) : ∃ A1 A2 A3 L : Nat,
    bits BinOp.and IntKind.u64 (bits BinOp.or IntKind.u64 (v : Int) ((v : Int) * 65536)) 281470681808895 = (A1 : Int) ∧
    bits BinOp.and IntKind.u64 (bits BinOp.or IntKind.u64 (A1 : Int) (IntKind.u64.wrap ((A1 : Int) * 256))) 71777214294589695 = (A2 : Int) ∧
    bits BinOp.and IntKind.u64 (bits BinOp.or IntKind.u64 (A2 : Int) (IntKind.u64.wrap ((A2 : Int) * 16))) 1085102592571150095 = (A3 : Int) ∧
    bits BinOp.and IntKind.u64 (IntKind.u64.wrap ((A3 : Int) + 434041037028460038) / 16) 72340172838076673 = (L : Int) ∧
    IntKind.u64.wrap (IntKind.u64.wrap ((A3 : Int) + 3472328296227680304) + IntKind.u64.wrap ((L : Int) * 39)) = (hexW v : Nat) := by
  have h0 := nib_lt v 0
  have h1 := nib_lt v 1
  have h2 := nib_lt v 2
  have h3 := nib_lt v 3
  have h4 := nib_lt v 4
  have h5 := nib_lt v 5
  have h6 := nib_lt v 6
  have h7 := nib_lt v 7
  have hn := nibs v hv
  have s1 := spread1 h0 h1 h2 h3 h4 h5 h6 h7
  have s2 := spread2 h0 h1 h2 h3 h4 h5 h6 h7
  have s3 := spread3 h0 h1 h2 h3 h4 h5 h6 h7
  have s4 := letters h0 h1 h2 h3 h4 h5 h6 h7
  have s5 := @digits (nib v 0) (nib v 1) (nib v 2) (nib v 3) (nib v 4) (nib v 5) (nib v 6) (nib v 7)
  rw [← hn] at s1
  have b1 := bnd1 h0 h1 h2 h3 h4 h5 h6 h7
  have b2 := bnd2 h0 h1 h2 h3 h4 h5 h6 h7
  have b3 := bnd3 h0 h1 h2 h3 h4 h5 h6 h7
  have g : ∀ n, n < 16 → (n + 6) / 16 < 2 := fun n h => by omega
  have b4 := bnd4 (g _ h0) (g _ h1) (g _ h2) (g _ h3) (g _ h4) (g _ h5) (g _ h6) (g _ h7)
  clear g
  unfold hexW
  generalize W8 (hexc (nib v 0)) (hexc (nib v 1)) (hexc (nib v 2)) (hexc (nib v 3)) (hexc (nib v 4)) (hexc (nib v 5)) (hexc (nib v 6)) (hexc (nib v 7)) = R at *
  generalize W8 ((nib v 0 + 6) / 16) ((nib v 1 + 6) / 16) ((nib v 2 + 6) / 16) ((nib v 3 + 6) / 16) ((nib v 4 + 6) / 16) ((nib v 5 + 6) / 16) ((nib v 6 + 6) / 16) ((nib v 7 + 6) / 16) = L at *
  generalize V [nib v 0, nib v 1, nib v 2, nib v 3, 0, 0, 0, 0, nib v 4, nib v 5, nib v 6, nib v 7] = A1 at *
  generalize V [nib v 0, nib v 1, 0, 0, nib v 2, nib v 3, 0, 0, nib v 4, nib v 5, 0, 0, nib v 6, nib v 7] = A2 at *
  generalize V [nib v 0, 0, nib v 1, 0, nib v 2, 0, nib v 3, 0, nib v 4, 0, nib v 5, 0, nib v 6, 0, nib v 7] = A3 at *
  clear hn h0 h1 h2 h3 h4 h5 h6 h7
  refine ⟨A1, A2, A3, L, ?_, ?_, ?_, ?_, ?_⟩
  · rw [← s1]
    exact stepN v (v * 65536) 281470681808895 (by omega) (by omega) (by omega)
  · have e : IntKind.u64.wrap ((A1 : Int) * 256) = ((A1 * 256 : Nat) : Int) := wrapN (A1 * 256) (by omega)
    rw [e, ← s2]
    exact stepN A1 (A1 * 256) 71777214294589695 (by omega) (by omega) (by omega)
  · have e : IntKind.u64.wrap ((A2 : Int) * 16) = ((A2 * 16 : Nat) : Int) := wrapN (A2 * 16) (by omega)
    rw [e, ← s3]
    exact stepN A2 (A2 * 16) 1085102592571150095 (by omega) (by omega) (by omega)
  · have e : IntKind.u64.wrap ((A3 : Int) + 434041037028460038) = ((A3 + 434041037028460038 : Nat) : Int) := wrapN (A3 + 434041037028460038) (by omega)
    rw [e, ← s4]
    exact bits_and_u64_nat ((A3 + 434041037028460038) / 16) 72340172838076673 (by omega) (by omega)
  · have e1 : IntKind.u64.wrap ((A3 : Int) + 3472328296227680304) = ((A3 + 3472328296227680304 : Nat) : Int) := wrapN (A3 + 3472328296227680304) (by omega)
    have e2 : IntKind.u64.wrap ((L : Int) * 39) = ((L * 39 : Nat) : Int) := wrapN (L * 39) (by omega)
    rw [e1, e2, ← s5]
    exact wrapN (A3 + 3472328296227680304 + L * 39) (by omega)

set_option maxHeartbeats 1000000 in
theorem hexWord_any (v : Nat) (hv : v < 4294967296) (w : World) :
    Calls Yba.prog 11 #[.int .u32 v] w fun e w' => e = .returned (.int .u64 (hexW v : Nat)) ∧ w = w' := by
  obtain ⟨A1, A2, A3, L, e1, e2, e3, e4, e5⟩ := hexWord_eq v hv
  have E1 : Hid (_ = _) := e1
  have E2 : Hid (_ = _) := e2
  have E3 : Hid (_ = _) := e3
  have E4 : Hid (_ = _) := e4
  have E5 : Hid (_ = _) := e5
  clear e1 e2 e3 e4 e5
  go_enter Yba.func11, Yba.ntmps11
  go_wp2
  rw [E1.out, E2.out, E3.out, E4.out, E5.out]
  go_ret
  exact ⟨rfl, rfl⟩

theorem gb_trans {a b c : World} {r : Option Nat} (h : a.grownBy b r) (k : b.grownBy c r) : a.grownBy c r :=
  ⟨k.os.trans h.os, k.tape.trans h.tape, k.output.trans h.output, Nat.le_trans h.size k.size, fun i hi hr => (k.block i (Nat.lt_of_lt_of_le hi h.size) hr).trans (h.block i hi hr)⟩
theorem gb_drew {a b : World} {r : Option Nat} (h : a.drew.grownBy b r) : a.grownBy b r := ⟨h.os, h.tape, h.output, h.size, h.block⟩
/-- the eight bytes of v, the greatest first, as cells -/
def be8 (v : Nat) : List Value := [Value.int .u8 ((v : Int) / 72057594037927936), Value.int .u8 ((v : Int) / 281474976710656 % 256), Value.int .u8 ((v : Int) / 1099511627776 % 256), Value.int .u8 ((v : Int) / 4294967296 % 256), Value.int .u8 ((v : Int) / 16777216 % 256), Value.int .u8 ((v : Int) / 65536 % 256), Value.int .u8 ((v : Int) / 256 % 256), Value.int .u8 ((v : Int) % 256)]
theorem info5 : (Yba.prog.info? 5).map (fun i => (i.zero, i.size, i.bytes)) = some (some (.int .u8 0), 1, 1) := by kernel_rfl

set_option maxHeartbeats 1000000 in
set_option maxRecDepth 100000 in
theorem append64_any (B n v : Nat) (hv : v < 18446744073709551616) (sv : Value) (xs : List Value) (w : World) (hown : w.ownsRow B 5 1 sv n xs) (hBw : B ≤ w.heap.size) (hlim : n + 8 ≤ 140737488355328) :
    Calls Yba.prog 10 #[.agg #[], sv, .int .u64 v] w fun e w' => ∃ v', e = .returned v' ∧ w'.ownsRow B 5 1 v' (n + 8) (xs ++ be8 v) ∧ w.grownBy w' sv.ownBlock := by
  obtain ⟨i0, hi, hz0, hz1, hz2⟩ := info_parts info5
  go_enter Yba.func10, Yba.ntmps10
  go_wp2_with (at_builtin; refine wpList_append_own _ rfl _ _ 30 rfl B 5 i0 (.int .u8 0) 1 1 Yba.underlying30 hi hz0 hz1 hz2 rfl (by decide) _ _ _ rfl ((hown.alloc _).alloc _) _ 8 8 (be8 v) rfl rfl ?c1 ?c2 ?c3 ?c4 ?c5 ?_)
  case c1 =>
    intro j u hj
    rw [WideShapes.add_plain, Nat.zero_add, World.cell?_alloc_at _ _ _ _ (by simp)]
    show (be8 v).toArray[j]? = some u
    simpa using hj
  case c2 => intro u hu; simp [be8] at hu; rcases hu with rfl | rfl | rfl | rfl | rfl | rfl | rfl | rfl <;> rfl
  case c3 => unfold maxLen; omega
  case c4 => omega
  case c5 => simp; omega
  intro v' w2 hown' hgrow _
  go_wp2
  go_ret
  exact ⟨v', rfl, hown', gb_trans (gb_trans (World.grownBy_alloc _ _ _) (World.grownBy_alloc _ _ _)) hgrow⟩

theorem hexW_lt (v : Nat) : hexW v < 18446744073709551616 := by
  have h : ∀ k, hexc (nib v k) < 256 := fun k => hexc_lt (nib_lt v k)
  exact W8_lt (h 0) (h 1) (h 2) (h 3) (h 4) (h 5) (h 6) (h 7)

set_option maxHeartbeats 1000000 in
set_option maxRecDepth 100000 in
theorem append8_any (B n v : Nat) (hv : v < 4294967296) (sv : Value) (xs : List Value) (w : World) (hown : w.ownsRow B 5 1 sv n xs) (hBw : B ≤ w.heap.size) (hlim : n + 8 ≤ 140737488355328) :
    Calls Yba.prog 9 #[sv, .int .u32 v] w fun e w' => ∃ v', e = .returned v' ∧ w'.ownsRow B 5 1 v' (n + 8) (xs ++ be8 (hexW v)) ∧ w.grownBy w' sv.ownBlock := by
  have hw := hexW_lt v
  go_enter Yba.func9, Yba.ntmps9
  go_wp2
  go_region_with (first | (go_at_call 11; refine (hexWord_any v hv _).mono ?_; rintro e w1 ⟨rfl, rfl⟩) | (go_at_call 10; refine (append64_any B n (hexW v) hw sv xs _ hown.drew hBw hlim).mono ?_; rintro e w1 ⟨v', rfl, ho, hg⟩))
  all_goals
    go_wp2
    go_ret
    exact ⟨v', rfl, ho, gb_drew hg⟩

/-- eight digits as cells -/
def hx (v : Nat) : List Value := be8 (hexW v)
theorem ne_box {w : World} {B n bx : Nat} {v : Value} {xs : List Value} {C : Array Value} (h : w.ownsRow B 5 1 v n xs) (hb : w.heap[bx]? = some (.cells C 35 (0, 0))) : some bx ≠ v.ownBlock := by
  rcases h.2 with ⟨rfl, _⟩ | ⟨g, cap, cur, rfl, _, hg, _⟩
  · simp [Value.ownBlock]
  · intro e
    simp [Value.ownBlock] at e
    subst e
    rw [hb] at hg
    simp at hg
theorem box_kept {w w' : World} {B n bx : Nat} {v : Value} {xs : List Value} {C : Array Value} (h : w.ownsRow B 5 1 v n xs) (hb : w.heap[bx]? = some (.cells C 35 (0, 0))) (hg : w.grownBy w' v.ownBlock) : w'.heap[bx]? = some (.cells C 35 (0, 0)) :=
  (hg.block bx (Array.getElem?_eq_some_iff.1 hb).1 (ne_box h hb)).trans hb
theorem box_cells {w : World} {bx : Nat} {x y : Value} (hb : w.heap[bx]? = some (.cells #[x, y] 35 (0, 0))) : w.cell? ⟨bx, 0, none⟩ = some x ∧ w.cell? ⟨bx, 1, none⟩ = some y := by
  constructor <;> simp [World.cell?, hb]

theorem append8_int (B n : Nat) (x : Int) (h0 : 0 ≤ x) (h1 : x < 4294967296) (sv : Value) (xs : List Value) (w : World) (hown : w.ownsRow B 5 1 sv n xs) (hBw : B ≤ w.heap.size) (hlim : n + 8 ≤ 140737488355328) :
    Calls Yba.prog 9 #[sv, .int .u32 x] w fun e w' => ∃ v', e = .returned v' ∧ w'.ownsRow B 5 1 v' (n + 8) (xs ++ hx x.toNat) ∧ w.grownBy w' sv.ownBlock := by
  obtain ⟨v, rfl⟩ := Int.eq_ofNat_of_zero_le h0
  rw [Int.toNat_natCast]
  exact append8_any B n v (by omega) sv xs w hown hBw hlim
/-- what the rounds carry: the box of the reference, and that nothing below B has turned -/
structure RefW (B bx : Nat) (hi lo : Int) (w0 w : World) : Prop where
  box : w.heap[bx]? = some (.cells #[.int .u64 hi, .int .u64 lo] 35 (0, 0))
  bel : Below B w0 w
  size : B ≤ w.heap.size
theorem RefW.step {B bx n : Nat} {hi lo : Int} {w0 w w' : World} {v : Value} {xs : List Value} (h : RefW B bx hi lo w0 w) (ho : w.ownsRow B 5 1 v n xs) (hg : w.grownBy w' v.ownBlock) : RefW B bx hi lo w0 w' :=
  ⟨box_kept ho h.box hg, h.bel.grown hg h.size (fun k hk => (ho.lt k hk).1), Nat.le_trans h.size hg.size⟩

theorem ref_start {B n : Nat} {hi lo : Int} {w : World} {sv : Value} {xs : List Value} (hown : w.ownsRow B 5 1 sv n xs) (hBw : B ≤ w.heap.size) :
    ∃ W1, W1 = w.alloc (.cells #[.int .u64 hi, .int .u64 lo] 35) ∧ W1.ownsRow B 5 1 sv n xs ∧ RefW B w.heap.size hi lo w W1 :=
  ⟨_, rfl, hown.alloc _, heap_alloc_new w _, (Below.refl _ _).alloc hBw _, by simp; omega⟩

end Go.Proofs.Ybulkdty
