/-
  Seat b0230aF: the walks of Uint32 (23), AppendUint32 (12).
-/
import Derived.Test.YbulkdswFmtReads
import Derived.Laws.BitsAllLaws
namespace Go.Proofs.YbulkdswFmt
open Go.RowKit

theorem or_add (a b i : Nat) (h : a < 2 ^ i) : a ||| b * 2 ^ i = a + b * 2 ^ i := by
  have := Nat.shiftLeft_add_eq_or_of_lt h b
  rw [Nat.shiftLeft_eq] at this
  rw [Nat.or_comm]
  omega
theorem le_word (b0 b1 b2 b3 : Nat) (h0 : b0 < 256) (h1 : b1 < 256) (h2 : b2 < 256) (h3 : b3 < 256) :
    bits BinOp.or IntKind.u32 (bits BinOp.or IntKind.u32 (bits BinOp.or IntKind.u32 (b0 : Int) ((b1 : Int) * 256)) ((b2 : Int) * 65536)) ((b3 : Int) * 16777216) = ((b0 + b1 * 256 + b2 * 65536 + b3 * 16777216 : Nat) : Int) := by
  have e1 : (b1 : Int) * 256 = ((b1 * 256 : Nat) : Int) := by omega
  have e2 : (b2 : Int) * 65536 = ((b2 * 65536 : Nat) : Int) := by omega
  have e3 : (b3 : Int) * 16777216 = ((b3 * 16777216 : Nat) : Int) := by omega
  have o1 : b0 ||| b1 * 256 = b0 + b1 * 256 := or_add b0 b1 8 (by omega)
  have o2 : (b0 + b1 * 256) ||| b2 * 65536 = b0 + b1 * 256 + b2 * 65536 := or_add _ b2 16 (by omega)
  have o3 : (b0 + b1 * 256 + b2 * 65536) ||| b3 * 16777216 = b0 + b1 * 256 + b2 * 65536 + b3 * 16777216 := or_add _ b3 24 (by omega)
  rw [e1, e2, e3, u32_or_nat _ _ (by omega) (by omega), o1, u32_or_nat _ _ (by omega) (by omega), o2, u32_or_nat _ _ (by omega) (by omega), o3]

set_option maxHeartbeats 1000000 in
theorem uint32_any (hb o l c : Nat) (b0 b1 b2 b3 : Nat) (w : World) (hl : 4 ≤ l) (h0 : b0 < 256) (h1 : b1 < 256) (h2 : b2 < 256) (h3 : b3 < 256)
    (c0 : w.cell? ⟨hb, o, none⟩ = some (.int .u8 b0)) (c1 : w.cell? ⟨hb, o + 1, none⟩ = some (.int .u8 b1)) (c2 : w.cell? ⟨hb, o + 2, none⟩ = some (.int .u8 b2)) (c3 : w.cell? ⟨hb, o + 3, none⟩ = some (.int .u8 b3)) :
    Calls Ybaf.prog 23 #[.agg #[], .slice (some ⟨hb, o, none⟩) l c] w fun e w' => e = .returned (.int .u32 (b0 + b1 * 256 + b2 * 65536 + b3 * 16777216 : Nat)) ∧ ∃ q, w' = (w.alloc (.cells #[] 39)).drewN q := by
  have l0 : (0 : Int) < (l : Int) := by omega
  have l1 : (1 : Int) < (l : Int) := by omega
  have l2 : (2 : Int) < (l : Int) := by omega
  have l3 : (3 : Int) < (l : Int) := by omega
  have hlt : hb < w.heap.size := World.block_lt_of_cell? w _ c0
  have b0' : (b0 : Int) < 256 := by omega
  have b1' : (b1 : Int) < 256 := by omega
  have b2' : (b2 : Int) < 256 := by omega
  have b3' : (b3 : Int) < 256 := by omega
  have E := hide' (le_word b0 b1 b2 b3 h0 h1 h2 h3)
  go_enter Ybaf.func23, Ybaf.ntmps23
  go_wp2
  go_quiet (fail)
  go_wp2
  rw [E.out]
  go_ret
  exact ⟨rfl, _, rfl⟩

theorem Kept.of_grown {a b : World} {g : Nat} (h : a.grownBy b (some g)) : Kept [g] a b := ⟨h.os, h.tape, h.output, h.size, fun i hi hn => h.block i hi (by simpa using hn)⟩
/-- the four bytes of v, the least first, as cells -/
def le4 (v : Nat) : List Value := [Value.int .u8 ((v : Int) % 256), Value.int .u8 ((v : Int) / 256 % 256), Value.int .u8 ((v : Int) / 65536 % 256), Value.int .u8 ((v : Int) / 16777216)]
theorem info5 : (Ybaf.prog.info? 5).map (fun i => (i.zero, i.size, i.bytes)) = some (some (.int .u8 0), 1, 1) := by kernel_rfl

set_option maxHeartbeats 1000000 in
set_option maxRecDepth 100000 in
theorem append32_any (B n v sb cap : Nat) (hv : v < 4294967296) (xs : List Value) (w : World) (hown : w.ownsRow B 5 1 (.slice (some ⟨sb, 0, none⟩) n cap) n xs) (hroom : n + 4 ≤ cap) :
    Calls Ybaf.prog 12 #[.agg #[], .slice (some ⟨sb, 0, none⟩) n cap, .int .u32 v] w fun e w' => e = .returned (.slice (some ⟨sb, 0, none⟩) (n + 4) cap) ∧ w'.ownsRow B 5 1 (.slice (some ⟨sb, 0, none⟩) (n + 4) cap) (n + 4) (xs ++ le4 v) ∧ Kept [sb] w w' := by
  obtain ⟨i0, hi, hz0, hz1, hz2⟩ := info_parts info5
  go_enter Ybaf.func12, Ybaf.ntmps12
  go_wp2_with (at_builtin; refine wpList_append_fits _ rfl _ _ 22 rfl B 5 i0 1 Ybaf.underlying22 hi hz1 sb n cap _ rfl ((hown.alloc _).alloc _) _ 4 4 (le4 v) rfl rfl ?c1 ?c2 ?c3 ?_)
  case c1 =>
    intro j u hj
    rw [WideShapes.add_plain, Nat.zero_add, World.cell?_alloc_at _ _ _ _ (by simp)]
    show (le4 v).toArray[j]? = some u
    simpa using hj
  case c2 => intro u hu; simp [le4] at hu; rcases hu with rfl | rfl | rfl | rfl <;> rfl
  case c3 => omega
  intro w2 hown2 hgrow
  have hk := hide' ((((Kept.refl [sb] w).alloc _).alloc _).trans (Kept.of_grown hgrow))
  clear hown hgrow
  go_wp2
  go_ret
  exact ⟨rfl, hown2, hk.out⟩
end Go.Proofs.YbulkdswFmt
