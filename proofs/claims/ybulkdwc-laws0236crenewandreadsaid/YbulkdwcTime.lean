/-
  Seat b0236a: what is kept; time.Time's small walks (15, 16, 21), Add (8), Equal (11), Sub (34).
-/
import Derived.Test.YbulkdwcProg
import Derived.Outline
import Derived.WalkKit
import Derived.OwnWalk
import Derived.RegionTactic
import Derived.BigQuiet
import Derived.Deep.QuietTactic
import Derived.Deep.RegionHeld3
import Derived.Deep.RegionHeldLaw
import Derived.Deep.AppendLies
import Derived.Deep.CutRange
import Derived.WalkSpells
import Derived.Deep.RegionLaw
import Derived.Laws.Rows
import Derived.Laws.BitsAllLaws
import Derived.Below
namespace Go.Proofs.Ybulkdwc
open Go.RowKit

/-- what a call leaves alone: every old block but those named -/
structure Kept (S : List Nat) (w w' : World) : Prop where
  os : w'.os = w.os
  tape : w'.tape = w.tape
  output : w'.output = w.output
  size : w.heap.size ≤ w'.heap.size
  block : ∀ k, k < w.heap.size → k ∉ S → w'.heap[k]? = w.heap[k]?
theorem Kept.refl (S : List Nat) (w : World) : Kept S w w := ⟨rfl, rfl, rfl, Nat.le_refl _, fun _ _ _ => rfl⟩
theorem Kept.trans {S : List Nat} {a b c : World} (h : Kept S a b) (k : Kept S b c) : Kept S a c :=
  ⟨k.os.trans h.os, k.tape.trans h.tape, k.output.trans h.output, Nat.le_trans h.size k.size, fun i hi hn => (k.block i (Nat.lt_of_lt_of_le hi h.size) hn).trans (h.block i hi hn)⟩
/-- a later change may touch what is new, or what the list names -/
theorem Kept.then {S T : List Nat} {a b c : World} (h : Kept S a b) (k : Kept T b c) (hT : ∀ t ∈ T, t < a.heap.size → t ∈ S) : Kept S a c :=
  ⟨k.os.trans h.os, k.tape.trans h.tape, k.output.trans h.output, Nat.le_trans h.size k.size, fun i hi hn => (k.block i (Nat.lt_of_lt_of_le hi h.size) (fun ht => hn (hT i ht hi))).trans (h.block i hi hn)⟩
theorem Kept.drewN (S : List Nat) (w : World) (q : Nat) : Kept S w (w.drewN q) := ⟨rfl, rfl, rfl, Nat.le_refl _, fun _ _ _ => rfl⟩
theorem Kept.drew {S : List Nat} {a b : World} (h : Kept S a b) : Kept S a b.drew := ⟨h.os, h.tape, h.output, h.size, h.block⟩
theorem Kept.drewN' {S : List Nat} {a b : World} (h : Kept S a b) (q : Nat) : Kept S a (b.drewN q) := ⟨h.os, h.tape, h.output, h.size, h.block⟩
theorem Kept.alloc {S : List Nat} {a b : World} (h : Kept S a b) (o : Obj) : Kept S a (b.alloc o) :=
  ⟨h.os, h.tape, h.output, by simp; have := h.size; omega, fun i hi hn => (Below.heap_alloc _ _ _ (Nat.lt_of_lt_of_le hi h.size)).trans (h.block i hi hn)⟩
theorem Kept.setCell {S : List Nat} {a b : World} (h : Kept S a b) (p : Addr) (v : Value) (hp : p.block < a.heap.size → p.block ∈ S) : Kept S a (b.setCell p v) :=
  ⟨h.os, h.tape, h.output, by simp [World.setCell]; exact h.size, fun i hi hn => (Below.heap_setCell _ _ _ _ (fun e => hn (by rw [e] at hi ⊢; exact hp hi))).trans (h.block i hi hn)⟩
theorem Kept.setRow {S : List Nat} {a b : World} (h : Kept S a b) (g : Nat) (cs : Array Value) (hp : g < a.heap.size → g ∈ S) : Kept S a (b.setRow g cs) :=
  ⟨h.os, h.tape, h.output, by simp [World.setRow]; exact h.size, fun i hi hn => (setRow_other b g i cs (fun e => hn (by rw [e] at hi ⊢; exact hp hi))).trans (h.block i hi hn)⟩
theorem Kept.below {S : List Nat} {B : Nat} {a b c : World} (h : Below B a b) (k : Kept S b c) (hS : ∀ s ∈ S, B ≤ s) (hB : B ≤ b.heap.size) : Below B a c :=
  ⟨k.os.trans h.os, k.tape.trans h.tape, k.output.trans h.output, Nat.le_trans h.size k.size, fun i hi => (k.block i (by omega) (fun hs => by have := hS i hs; omega)).trans (h.block i hi)⟩
theorem Kept.cell {S : List Nat} {a b : World} (h : Kept S a b) {p : Addr} (hp : p.block < a.heap.size) (hn : p.block ∉ S) : b.cell? p = a.cell? p := World.cell?_of_block (h.block p.block hp hn)

theorem hide' {p : Prop} (h : p) : Hid p := h
theorem box_cell {w : World} {bp : Nat} {cs : Array Value} {t : TypeId} (h : w.heap[bp]? = some (.cells cs t (0, 0))) (i : Nat) : w.cell? ⟨bp, i, none⟩ = cs[i]? := by
  simp [World.cell?, h]
theorem free_box {w : World} {b i : Nat} {C : Array Value} {e : TypeId} (h : w.heap[b]? = some (.cells C e (0, 0))) : w.frozen? ⟨b, i, none⟩ = false := by simp [World.frozen?, h]
theorem lt_box {w : World} {b : Nat} {o : Obj} (h : w.heap[b]? = some o) : b < w.heap.size := (Array.getElem?_eq_some_iff.1 h).1
theorem set_block {w : World} {b i : Nat} {u : Value} {cs : Array Value} {t : TypeId} {fr : Nat × Nat} (h : w.heap[b]? = some (.cells cs t fr)) : (w.setCell ⟨b, i, none⟩ u).heap[b]? = some (.cells (cs.setIfInBounds i u) t fr) := by
  have hlt := (Array.getElem?_eq_some_iff.1 h).1
  have h' : w.heap[b] = .cells cs t fr := by simpa [Array.getElem?_eq_getElem hlt] using h
  show (w.heap.modify b _)[b]? = _
  rw [Array.getElem?_eq_getElem (by simpa using hlt), Array.getElem_modify_self, h']
  rfl


/-- N nanoseconds behind the zero time, as a time.Time without a monotonic reading: its three cells -/
def tmCells (N : Int) : Array Value := #[.int .u64 (N % 1000000000), .int .i64 (N / 1000000000), .pointer none]

theorem and_mask (x : Int) (h0 : 0 ≤ x) (h1 : x < 1000000000) : bits BinOp.and IntKind.u64 x 1073741823 = x := by
  obtain ⟨n, rfl⟩ := Int.eq_ofNat_of_zero_le h0
  have h := u64_and_nat n 1073741823 (by omega) (by omega)
  have e : n &&& 1073741823 = n % 2 ^ 30 := Nat.and_two_pow_sub_one_eq_mod n 30
  rw [e, Nat.mod_eq_of_lt (by omega)] at h
  exact h
theorem and_high (x : Int) (h0 : 0 ≤ x) (h1 : x < 1000000000) : bits BinOp.and IntKind.u64 x 9223372036854775808 = 0 := by
  obtain ⟨n, rfl⟩ := Int.eq_ofNat_of_zero_le h0
  have h := u64_and_nat n 9223372036854775808 (by omega) (by omega)
  have e : n &&& 9223372036854775808 = 0 := by
    apply Nat.eq_of_testBit_eq
    intro i
    rw [Nat.testBit_and, show (9223372036854775808 : Nat) = 2 ^ 63 by rfl, Nat.testBit_two_pow]
    by_cases hi : 63 = i
    · subst hi
      rw [Nat.testBit_lt_two_pow (by omega)]
      simp
    · simp [hi]
  rw [e] at h
  exact h
theorem andNot_mask (x : Int) (h0 : 0 ≤ x) (h1 : x < 1000000000) : bits BinOp.andNot IntKind.u64 x 1073741823 = 0 := by
  obtain ⟨n, rfl⟩ := Int.eq_ofNat_of_zero_le h0
  have h := u64_andNot_nat n 1073741823 (by omega) (by omega)
  have e : n &&& (18446744073709551615 - 1073741823) = 0 := by
    apply Nat.eq_of_testBit_eq
    intro i
    rw [Nat.testBit_and, show (18446744073709551615 - 1073741823 : Nat) = 17179869183 <<< 30 by rfl, Nat.testBit_shiftLeft]
    by_cases hi : 30 ≤ i
    · rw [Nat.testBit_lt_two_pow (Nat.lt_of_lt_of_le (show n < 2 ^ 30 by omega) (Nat.pow_le_pow_right (by omega) hi))]
      simp
    · simp [hi]
  rw [e] at h
  exact h
theorem or_zero (x : Int) (h0 : 0 ≤ x) (h1 : x < 1000000000) : bits BinOp.or IntKind.u64 0 x = x := by
  obtain ⟨n, rfl⟩ := Int.eq_ofNat_of_zero_le h0
  have h := u64_or_nat 0 n (by omega) (by omega)
  rw [Nat.zero_or] at h
  exact h

set_option maxHeartbeats 1000000 in
theorem nsec_any (b : Nat) (x : Int) (w : World) (c0 : w.cell? ⟨b, 0, none⟩ = some (.int .u64 x)) (h0 : 0 ≤ x) (h1 : x < 1000000000) : Calls Yba.prog 15 #[.pointer (some ⟨b, 0, none⟩)] w fun e w' => e = .returned (.int .i32 x) ∧ w' = w := by
  have em := and_mask x h0 h1
  go_enter Yba.func15, Yba.ntmps15
  go_wp2
  go_ret
  exact ⟨rfl, rfl⟩

set_option maxHeartbeats 1000000 in
theorem sec_any (b : Nat) (x s : Int) (w : World) (c0 : w.cell? ⟨b, 0, none⟩ = some (.int .u64 x)) (c1 : w.cell? ⟨b, 1, none⟩ = some (.int .i64 s)) (h0 : 0 ≤ x) (h1 : x < 1000000000) : Calls Yba.prog 21 #[.pointer (some ⟨b, 0, none⟩)] w fun e w' => e = .returned (.int .i64 s) ∧ w' = w := by
  have em := and_high x h0 h1
  go_enter Yba.func21, Yba.ntmps21
  go_wp2
  go_ret
  exact ⟨rfl, rfl⟩

set_option maxHeartbeats 1000000 in
theorem addSec_any (b : Nat) (x s d : Int) (w : World) (c0 : w.cell? ⟨b, 0, none⟩ = some (.int .u64 x)) (c1 : w.cell? ⟨b, 1, none⟩ = some (.int .i64 s)) (f1 : w.frozen? ⟨b, 1, none⟩ = false) (h0 : 0 ≤ x) (h1 : x < 1000000000)
    (hs1 : -9000000000000 ≤ s) (hs2 : s ≤ 9000000000000) (hd1 : -9000000000000 ≤ d) (hd2 : d ≤ 9000000000000) :
    Calls Yba.prog 16 #[.pointer (some ⟨b, 0, none⟩), .int .i64 d] w fun e w' => e = .returned (.tuple #[]) ∧ w' = w.setCell ⟨b, 1, none⟩ (.int .i64 (s + d)) := by
  have em := and_high x h0 h1
  by_cases hd : 0 < d
  · have hg : s < s + d := by omega
    go_enter Yba.func16, Yba.ntmps16
    go_wp2
    go_end0
    exact ⟨rfl, rfl⟩
  · have hg : ¬ s < s + d := by omega
    go_enter Yba.func16, Yba.ntmps16
    go_wp2
    go_end0
    exact ⟨rfl, rfl⟩

theorem qr (d : Int) : ∃ q r : Int, d.tdiv 1000000000 = q ∧ d.tmod 1000000000 = r ∧ d = q * 1000000000 + r ∧ -1000000000 < r ∧ r < 1000000000 := by
  refine ⟨_, _, rfl, rfl, ?_, ?_, ?_⟩
  · have := Int.mul_tdiv_add_tmod d 1000000000
    omega
  · have h := Int.tmod_lt_of_pos (-d) (show (0 : Int) < 1000000000 by omega)
    rw [Int.neg_tmod] at h
    omega
  · exact Int.tmod_lt_of_pos d (by omega)

/-- the two blocks of Add -/
theorem two_new (w : World) (N : Int) : ∃ W, W = (w.alloc (.cells (tmCells N) 46)).alloc (.cells #[.int .u64 0, .int .i64 0, .pointer none] 46) ∧ W.heap[w.heap.size]? = some (.cells (tmCells N) 46 (0, 0)) ∧ W.heap[w.heap.size + 1]? = some (.cells #[.int .u64 0, .int .i64 0, .pointer none] 46 (0, 0)) ∧ Kept [] w W := by
  refine ⟨_, rfl, ?_, ?_, ((Kept.refl _ _).alloc _).alloc _⟩
  · rw [Below.heap_alloc _ _ _ (by simp)]
    exact heap_alloc_new _ _
  · have := heap_alloc_new (w.alloc (.cells (tmCells N) 46)) (.cells #[.int .u64 0, .int .i64 0, .pointer none] 46)
    simpa using this

set_option maxRecDepth 100000 in
set_option maxHeartbeats 2000000 in
theorem add_any (N d : Int) (w : World) (hN1 : -9000000000000 ≤ N) (hN2 : N ≤ 9000000000000) (hd1 : -9000000000000 ≤ d) (hd2 : d ≤ 9000000000000) :
    Calls Yba.prog 8 #[.agg (tmCells N), .int .i64 d] w fun e w' => e = .returned (.agg (tmCells (N + d))) ∧ Kept [] w w' := by
  obtain ⟨q, r, hq, hr, hd, hr1, hr2⟩ := qr d
  go_enter Yba.func8, Yba.ntmps8
  go_upto_region 1 with fail
  obtain ⟨W, eW, hW1, hW2, kW⟩ := two_new w N
  rw [← eW]
  clear eW
  have c0 : W.cell? ⟨w.heap.size, 0, none⟩ = some (.int .u64 (N % 1000000000)) := (box_cell hW1 0).trans rfl
  have c1 : W.cell? ⟨w.heap.size, 1, none⟩ = some (.int .i64 (N / 1000000000)) := (box_cell hW1 1).trans rfl
  have c2 : W.cell? ⟨w.heap.size, 2, none⟩ = some (.pointer none) := (box_cell hW1 2).trans rfl
  have f := fun i => free_box (i := i) hW1
  have lW := lt_box hW1
  have hx0 : 0 ≤ N % 1000000000 := by omega
  have hx1 : N % 1000000000 < 1000000000 := by omega
  have hs1 : -9000000000000 ≤ N / 1000000000 := by omega
  have hs2 : N / 1000000000 ≤ 9000000000000 := by omega
  have hNN := Int.emod_add_mul_ediv N 1000000000
  generalize hx : N % 1000000000 = x at c0 hx0 hx1 hNN
  generalize hs : N / 1000000000 = s at c1 hs1 hs2 hNN
  have HX := hide' hx
  have HS := hide' hs
  have HD := hide' hd
  have HNN := hide' hNN
  have H1 := hide' hW1
  have H2 := hide' hW2
  have HK := hide' kW
  clear hx hs hd hNN hW1 hW2 kW
  have hq1 : -9001 ≤ q := by have := HD.out; omega
  have hq2 : q ≤ 9001 := by have := HD.out; omega
  go_upto_if 16 with (go_at_call 15; refine (nsec_any _ x W c0 hx0 hx1).mono ?_; rintro e W2 ⟨rfl, e2⟩; replace e2 := e2.symm; subst e2)
  go_cut [5, 6] from 15 to 26 (fun s5 s6 wx => ∃ q' y' : Int, s5 = .int .i64 q' ∧ s6 = .int .i32 y' ∧ 0 ≤ y' ∧ y' < 1000000000 ∧ -9002 ≤ q' ∧ q' ≤ 9002 ∧ q' * 1000000000 + y' = q * 1000000000 + r + x ∧ wx = W)
  case first =>
    by_cases hA : 1000000000 ≤ x + r
    · go_wp2_with fail
      go_meet
      case rel => exact ⟨q + 1, x + r - 1000000000, by go_num, by go_num, by omega, by omega, by omega, by omega, by omega, rfl⟩
    · by_cases hB : x + r < 0
      · go_wp2_with fail
        go_meet
        case rel => exact ⟨q - 1, x + r + 1000000000, by go_num, by go_num, by omega, by omega, by omega, by omega, by omega, rfl⟩
      · go_wp2_with fail
        go_meet
        case rel => exact ⟨q, x + r, by go_num, by go_num, by omega, by omega, by omega, by omega, by omega, rfl⟩
  case rest =>
  obtain ⟨q', y', rfl, rfl, hy0, hy1, hq3, hq4, hqy, ec⟩ := hcut
  replace ec := ec.symm
  subst ec
  have HQY := hide' hqy
  have em := andNot_mask x hx0 hx1
  have eo := or_zero y' hy0 hy1
  have eh := and_high y' hy0 hy1
  clear hqy hq hr
  go_wp2_with fail
  have hB : (W.setCell ⟨w.heap.size, 0, none⟩ (.int .u64 y')).heap[w.heap.size]? = some (.cells #[.int .u64 y', .int .i64 s, .pointer none] 46 (0, 0)) := by
    rw [set_block H1.out, ← HS.out]
    rfl
  refine Calls.mono (addSec_any w.heap.size y' s q' _ ((box_cell hB 0).trans rfl) ((box_cell hB 1).trans rfl) (free_box hB) hy0 hy1 hs1 hs2 (by omega) (by omega)) ?_
  rintro e W3 ⟨rfl, eW3⟩
  have h3 : W3.heap[w.heap.size]? = some (.cells (tmCells (N + d)) 46 (0, 0)) := by
    rw [eW3, set_block hB]
    have e1 : (N + d) % 1000000000 = y' := by have := HQY.out; have := HD.out; have := HNN.out; omega
    have e2 : (N + d) / 1000000000 = s + q' := by have := HQY.out; have := HD.out; have := HNN.out; omega
    simp [tmCells, e1, e2]
  have k3 : Kept [] w W3 := by
    rw [eW3]
    exact (HK.out.setCell _ _ (by simp)).setCell _ _ (by simp)
  have h4 : W3.heap[w.heap.size + 1]? = some (.cells #[.int .u64 0, .int .i64 0, .pointer none] 46 (0, 0)) := by
    rw [eW3, Below.heap_setCell _ _ _ _ (by simp), Below.heap_setCell _ _ _ _ (by simp)]
    exact H2.out
  have y0 : W3.cell? ⟨w.heap.size, 0, none⟩ = some (.int .u64 ((N + d) % 1000000000)) := (box_cell h3 0).trans rfl
  have y1 : W3.cell? ⟨w.heap.size, 1, none⟩ = some (.int .i64 ((N + d) / 1000000000)) := (box_cell h3 1).trans rfl
  have y2 : W3.cell? ⟨w.heap.size, 2, none⟩ = some (.pointer none) := (box_cell h3 2).trans rfl
  have z0 : W3.cell? ⟨w.heap.size + 1, 0, none⟩ = some (.int .u64 0) := (box_cell h4 0).trans rfl
  have z1 : W3.cell? ⟨w.heap.size + 1, 1, none⟩ = some (.int .i64 0) := (box_cell h4 1).trans rfl
  have z2 : W3.cell? ⟨w.heap.size + 1, 2, none⟩ = some (.pointer none) := (box_cell h4 2).trans rfl
  have f4 := fun i => free_box (i := i) h4
  have l4 := lt_box h4
  have K3 := hide' k3
  have ehN := and_high ((N + d) % 1000000000) (by omega) (by omega)
  clear hB eW3 h3 h4 k3 c0 c1 c2 f em eo eh
  go_wp2_with fail
  refine bodyPost_ret (v := .agg (tmCells (N + d))) (by simp [results, Yba.results8, go_sem, z0, z1, z2, tmCells]) rfl ⟨rfl, ?_⟩
  exact ((K3.out.setCell _ _ (by simp)).setCell _ _ (by simp)).setCell _ _ (by simp)
end Go.Proofs.Ybulkdwc
