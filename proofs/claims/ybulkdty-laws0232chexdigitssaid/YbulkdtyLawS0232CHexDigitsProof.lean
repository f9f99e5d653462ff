/-
  'Rows.LawS0232CHexDigitsSaid': the shell by program (proof-skeleton.mjs); the walk is ours.
-/
import Derived.Test.YbulkdtyRows
import Derived.Test.YbulkdtyRef
import Derived.WalkSpells
import Derived.Laws.CopyOwn
import Derived.Maps.AppendAt
import Derived.Deep.QuietTactic
import Derived.BigQuiet
import Derived.WalkKit
import Derived.ProofKit
import Derived.OpenShut
import Derived.ShutString
import Derived.ChangeOld
import Derived.Below
namespace Go.Proofs.Ybulkdty.lawS0232CHexDigits
open Go.ChangeShapes Go.WideShapes Go.ChangeAt Go.RowKit
open Go.ChangeMaps (open_string shut_string)
set_option linter.unusedVariables false

theorem own : ownKnob Yba.prog.godebug = none := by kernel_rfl
theorem laidOut : laidOutB Yba.prog = true := by kernel_rfl

/-- WHAT THE WALK IS TOLD OF A SLICE OF INTEGERS THAT CAME IN: it is nil; or it leads to a row of 'cap' cells, the numbers 'zs' (the first 'len' are its elements, the rest its spare room), each fitting its kind. -/
def IsRow (k : IntKind) (w : World) (a : Option Addr) (len cap : Nat) (zs : List Int) : Prop :=
  (a = none ∧ len = 0 ∧ cap = 0 ∧ zs = []) ∨
  ∃ x, a = some x ∧ len ≤ cap ∧ cap ≤ maxLen ∧ zs.length = cap ∧ (∀ i, i < zs.length → w.cell? (x.add i) = some (.int k (zs.getD i 0))) ∧ ∀ n ∈ zs, (Lit.int k n).wf = true

/-- where the elements that came in lie -/
def Src (w : World) (a : Option Addr) (cs : List Value) : Prop := ∀ ad, a = some ad → ∀ j u, cs[j]? = some u → w.cell? (ad.add j) = some u
theorem Src.below {w w' : World} {a : Option Addr} {cs : List Value} (h : Src w a cs) (hb : Below w.heap.size w w') : Src w' a cs :=
  fun ad e j u hj => (hb.cell (World.block_lt_of_cell? w _ (h ad e j u hj))).trans (h ad e j u hj)
theorem src_of_row {w : World} {a : Option Addr} {len cap : Nat} {zs : List Int} (h : IsRow .u8 w a len cap zs) :
    ∃ cs : List Value, cs.length = len ∧ (∀ u ∈ cs, u.oneCell' = true) ∧ (∀ u ∈ cs, ∃ z : Int, u = .int .u8 z) ∧ Src w a cs ∧ (a = none → len = 0 ∧ cap = 0) ∧ len ≤ cap := by
  rcases h with ⟨rfl, rfl, rfl, rfl⟩ | ⟨x, rfl, hl, hm, hz, hc, hw⟩
  · exact ⟨[], rfl, by simp, by simp, fun ad e => (by cases e), fun _ => ⟨rfl, rfl⟩, Nat.le_refl _⟩
  · refine ⟨(zs.take len).map (Value.int .u8), by simp; omega, ints_oneCell _ _, fun u hu => ?_, ?_, fun e => (by cases e), hl⟩
    · obtain ⟨z, _, rfl⟩ := List.mem_map.1 hu
      exact ⟨z, rfl⟩
    intro ad e j u hj
    cases e
    have hj' : j < len := by
      have := (List.getElem?_eq_some_iff.1 hj).1
      simp at this
      omega
    rw [hc j (by omega)]
    rw [List.getElem?_map, List.getElem?_take_of_lt hj'] at hj
    simp [List.getD, List.getElem?_eq_getElem (show j < zs.length by omega)] at hj ⊢
    exact hj
theorem size5 : (Yba.prog.info? 5).map (·.size) = some 1 := by kernel_rfl

/-- the first k of the sixteen digits of x, as cells -/
def dg (x k : Nat) : List Value := (List.range k).map fun j => Value.int .u8 ((hexc (nib x (15 - j)) : Nat) : Int)
theorem dg_succ (x k : Nat) : dg x (k + 1) = dg x k ++ [Value.int .u8 ((hexc (nib x (15 - k)) : Nat) : Int)] := by
  simp [dg, List.range_succ]
theorem shr_nib (x k : Nat) (hx : x < 18446744073709551616) (hk : k < 16) : ∃ d : Nat, d < 16 ∧ nib x (15 - k) = d ∧ bits BinOp.and IntKind.u64 ((x : Int) / 2 ^ ((15 - k) * 4)) 15 = (d : Int) := by
  refine ⟨nib x (15 - k), nib_lt _ _, rfl, ?_⟩
  have e : (x : Int) / 2 ^ ((15 - k) * 4) = ((x / 2 ^ ((15 - k) * 4) : Nat) : Int) := by simp
  have hlt : x / 2 ^ ((15 - k) * 4) < 18446744073709551616 := Nat.lt_of_le_of_lt (Nat.div_le_self _ _) hx
  have h := bits_and_u64_nat (x / 2 ^ ((15 - k) * 4)) 15 hlt (by omega)
  have e2 : x / 2 ^ ((15 - k) * 4) &&& 15 = nib x (15 - k) := by
    have := Nat.and_two_pow_sub_one_eq_mod (x / 2 ^ ((15 - k) * 4)) 4
    unfold nib
    rw [show (16 : Nat) = 2 ^ 4 from rfl, ← Nat.pow_mul, Nat.mul_comm 4]
    exact this
  rw [e, ← e2]
  exact h
theorem own_shape {w : World} {B n : Nat} {v : Value} {xs : List Value} (h : w.ownsRow B 5 1 v n xs) (hn : 0 < n) : ∃ g c, v = .slice (some ⟨g, 0, none⟩) n c := by
  rcases h.2 with ⟨_, e⟩ | ⟨g, cap, cur, e, _⟩
  · omega
  · exact ⟨g, cap, e⟩
theorem row_block {w : World} {B g n cap : Nat} {xs : List Value} (h : w.ownsRow B 5 1 (.slice (some ⟨g, 0, none⟩) n cap) n xs) : ∃ cur : List Value, w.heap[g]? = some (.cells cur.toArray 5 (0, 0)) ∧ cur.length = cap := by
  rcases h.2 with ⟨e, _⟩ | ⟨g', cap', cur, e, _, hg, _, _, hs, _⟩
  · cases e
  · cases e
    exact ⟨cur.toList, by simpa using hg, by simpa using hs⟩
theorem own_of {w : World} {B n : Nat} {cur cs : List Value} (h : w.heap[B]? = some (.cells (splice cur 0 cs).toArray 5 (0, 0))) (hc : cur.length = n) (hn : cs.length = n) (hm : n ≤ 1024) :
    w.ownsRow B 5 1 (.slice (some ⟨B, 0, none⟩) n n) n cs := by
  have e : splice cur 0 cs = cs := by
    unfold splice
    simp [List.drop_eq_nil_of_le (show cur.length ≤ cs.length by omega)]
  rw [e] at h
  refine ⟨by omega, .inr ⟨B, n, cs.toArray, rfl, Nat.le_refl _, h, Nat.le_refl _, by unfold maxLen; omega, by simp; omega, ?_⟩⟩
  rw [List.take_of_length_le (by simp; omega)]

theorem tab_hex : ∀ (d : Nat) (h : d < 16), ((⟨#[48, 49, 50, 51, 52, 53, 54, 55, 56, 57, 97, 98, 99, 100, 101, 102]⟩ : ByteArray)[d]'h).toNat = hexc d
  | 0, _ => rfl | 1, _ => rfl | 2, _ => rfl | 3, _ => rfl | 4, _ => rfl | 5, _ => rfl | 6, _ => rfl | 7, _ => rfl
  | 8, _ => rfl | 9, _ => rfl | 10, _ => rfl | 11, _ => rfl | 12, _ => rfl | 13, _ => rfl | 14, _ => rfl | 15, _ => rfl
  | n + 16, h => absurd h (by omega)
theorem own_digit {w : World} {B n k d x : Nat} {v : Value} {pre : List Value} (hd : d < 16) (hn : nib x (15 - k) = d)
    (h : w.ownsRow B 5 1 v n (pre ++ dg x k ++ [Value.int .u8 ((((⟨#[48, 49, 50, 51, 52, 53, 54, 55, 56, 57, 97, 98, 99, 100, 101, 102]⟩ : ByteArray)[d]'hd).toNat : Nat) : Int)])) :
    w.ownsRow B 5 1 v n (pre ++ dg x (k + 1)) := by
  rw [tab_hex d hd] at h
  rw [dg_succ, hn, ← List.append_assoc]
  exact h
theorem hx_eq (v : Nat) : hx v = [Value.int .u8 (hexc (nib v 7) : Nat), Value.int .u8 (hexc (nib v 6) : Nat), Value.int .u8 (hexc (nib v 5) : Nat), Value.int .u8 (hexc (nib v 4) : Nat), Value.int .u8 (hexc (nib v 3) : Nat), Value.int .u8 (hexc (nib v 2) : Nat), Value.int .u8 (hexc (nib v 1) : Nat), Value.int .u8 (hexc (nib v 0) : Nat)] := by
  have h : ∀ k, hexc (nib v k) < 256 := fun k => hexc_lt (nib_lt v k)
  obtain ⟨e7, e6, e5, e4, e3, e2, e1, e0⟩ := W8_bytes (h 0) (h 1) (h 2) (h 3) (h 4) (h 5) (h 6) (h 7)
  have E : hexW v = W8 (hexc (nib v 0)) (hexc (nib v 1)) (hexc (nib v 2)) (hexc (nib v 3)) (hexc (nib v 4)) (hexc (nib v 5)) (hexc (nib v 6)) (hexc (nib v 7)) := rfl
  rw [← E] at e7 e6 e5 e4 e3 e2 e1 e0
  unfold hx be8
  rw [← e7, ← e6, ← e5, ← e4, ← e3, ← e2, ← e1, ← e0]
  rfl
theorem nib_hi (x k : Nat) : nib (x / 4294967296) k = nib x (k + 8) := by
  unfold nib
  rw [Nat.div_div_eq_div_mul, show (4294967296 : Nat) = 16 ^ 8 from rfl, ← Nat.pow_add, Nat.add_comm]
theorem nib_lo (x k : Nat) (hk : k < 8) : nib (x % 4294967296) k = nib x k := by
  unfold nib
  rcases (by omega : k = 0 ∨ k = 1 ∨ k = 2 ∨ k = 3 ∨ k = 4 ∨ k = 5 ∨ k = 6 ∨ k = 7) with rfl | rfl | rfl | rfl | rfl | rfl | rfl | rfl <;> omega
theorem dg16 (x : Nat) : dg x 16 = hx (x / 4294967296) ++ hx (x % 4294967296) := by
  rw [hx_eq, hx_eq, nib_hi, nib_hi, nib_hi, nib_hi, nib_hi, nib_hi, nib_hi, nib_hi, nib_lo x 0 (by omega), nib_lo x 1 (by omega), nib_lo x 2 (by omega), nib_lo x 3 (by omega), nib_lo x 4 (by omega), nib_lo x 5 (by omega), nib_lo x 6 (by omega), nib_lo x 7 (by omega)]
  rfl
/-- all cells are bytes -/
def U8 (l : List Value) : Prop := ∀ u ∈ l, ∃ z : Int, u = .int .u8 z
theorem U8.dg (x k : Nat) : U8 (dg x k) := fun u hu => by
  obtain ⟨j, _, rfl⟩ := List.mem_map.1 hu
  exact ⟨_, rfl⟩
theorem U8.append {a b : List Value} (ha : U8 a) (hb : U8 b) : U8 (a ++ b) := fun u hu => (List.mem_append.1 hu).elim (ha u) (hb u)
theorem U8.look {l : List Value} (h : U8 l) {k : Nat} (hk : k < l.length) : ∃ z : Int, l[k]? = some (.int .u8 z) := by
  obtain ⟨z, e⟩ := h l[k] (List.getElem_mem hk)
  exact ⟨z, by rw [List.getElem?_eq_getElem hk, e]⟩
theorem own_below {w w' : World} {B e size n : Nat} {v : Value} {xs : List Value} (h : w.ownsRow B e size v n xs) (hb : Below w.heap.size w w') : w'.ownsRow B e size v n xs := by
  refine ⟨h.1, ?_⟩
  rcases h.2 with hn | ⟨g, cap, cur, rfl, h1, h2, rest⟩
  · exact .inl hn
  · exact .inr ⟨g, cap, cur, rfl, h1, (hb.block g (Array.getElem?_eq_some_iff.1 h2).1).trans h2, rest⟩
theorem below_dN {B : Nat} {a w : World} {n : Nat} (h : Below B a w) : Below B a (w.drewN n) := ⟨h.os, h.tape, h.output, h.size, h.block⟩

set_option maxHeartbeats 4000000 in
set_option maxRecDepth 100000 in
theorem core_some_long (ad : Addr) (len cap : Nat) (cs : List Value) (hi lo : Nat) (m : Int) (w : World) (h1 : hi < 18446744073709551616) (h2 : lo < 18446744073709551616)
    (hl : len ≤ 1024) (hcs : cs.length = len) (hone : ∀ u ∈ cs, u.oneCell' = true) (hu8 : U8 cs) (hsrc : Src w (some ad) cs) (hm : (bits BinOp.and IntKind.u8 m 32 != 0) = true) :
    Calls Yba.prog 5 #[.slice (some ad) len cap, .int .u64 hi, .int .u64 lo, .int .u8 m] w fun e w' => e = .returned (.bool true) ∧ Below w.heap.size w w' := by
  obtain ⟨i0, hi0, hz0, hz1, hz2⟩ := info_parts info5
  have hne := fun wx => run_neq_slice_nil_any (P := Yba.prog) wx 30 5 (some ad) len cap 0 0 Yba.underlying30
  go_enter Yba.func5, Yba.ntmps5
  go_wp2_with (at_make; refine wpList_make_full _ rfl _ _ 30 rfl w.heap.size 5 i0 (.int .u8 0) 1 Yba.underlying30 hi0 hz0 hz1 _ _ _ _ len rfl rfl (by omega) (by omega) ?b2 ?b3 (Nat.le_refl _) ?_)
  case b2 => rw [hz2]; omega
  case b3 => unfold maxLen; omega
  intro W1 own1 grow1
  obtain ⟨cur, hcur, hlen⟩ := row_block own1
  have bel1 : Below w.heap.size w W1 := (Below.refl _ _).grown grow1 (Nat.le_refl _) (fun k h => by cases h)
  clear own1 grow1
  go_wp2_with (refine wpList_copy_splice rfl (.tmp 24) (.tmp 25) 30 30 rfl 5 Yba.underlying30 size5 (some ⟨w.heap.size, 0, none⟩) (some ad) len len len cap rfl rfl w.heap.size 0 cur 5 hcur cs ?c1 ?c2 ?c3 hone w.heap.size w bel1 (Nat.le_refl _) ?_)
  case c1 => simp [hcs]
  case c2 => intro _; exact fun j u hj => (hsrc.below bel1) ad rfl j u hj
  case c3 => omega
  intro W2 hW2 bel2
  have own2 : W2.ownsRow w.heap.size 5 1 (.slice (some ⟨w.heap.size, 0, none⟩) len len) len cs := own_of hW2.out hlen hcs (by omega)
  clear hcur hlen bel1 hW2 hne
  go_wp2_with fail
  refine (ref_long w.heap.size len hi lo m h1 h2 hm _ cs W2 own2 bel2.size (by omega)).mono ?_
  rintro e W3 ⟨v3, rfl, own3, bel3⟩
  have belA : Below w.heap.size w W3 := bel2.trans bel3
  have src3 : Src W3 (some ad) cs := hsrc.below belA
  obtain ⟨g, c, hv3⟩ := own_shape own3 (by omega)
  subst hv3
  have HL : Hid (cs ++ hx (hi / 4294967296) ++ hx (hi % 4294967296) ++ hx (lo / 4294967296) ++ hx (lo % 4294967296) = cs ++ dg hi 16 ++ dg lo 16) := by show cs ++ hx (hi / 4294967296) ++ hx (hi % 4294967296) ++ hx (lo / 4294967296) ++ hx (lo % 4294967296) = cs ++ dg hi 16 ++ dg lo 16; simp only [dg16, List.append_assoc]
  rw [HL.out] at own3
  clear own2 bel2 bel3 hsrc HL
  go_wp2_with (at_make; refine wpList_make_own _ rfl _ _ 30 rfl W3.heap.size 5 i0 (.int .u8 0) 1 Yba.underlying30 hi0 hz0 hz1 _ _ _ (len + 32) rfl rfl (by omega) ?d2 ?d3 (Nat.le_refl _) ?_)
  case d2 => rw [hz2]; omega
  case d3 => unfold maxLen; omega
  intro W4 own4 grow4
  have bel4 : Below W3.heap.size W3 W4 := (Below.refl _ _).grown grow4 (Nat.le_refl _) (fun k h => by cases h)
  have src4 : Src W4 (some ad) cs := src3.below bel4
  clear grow4 src3
  go_wp2_with (at_builtin; refine wpList_append_fits_any _ rfl (.tmp 38) (.tmp 39) 30 rfl W3.heap.size 5 i0 1 Yba.underlying30 hi0 hz1 W3.heap.size 0 (len + 32) _ rfl own4 (some ad) len cap cs rfl (by omega) (fun h => by cases h) src4 hone (by omega) ?_)
  intro W5 own5 grow5
  have bel5 : Below W3.heap.size W3 W5 := bel4.grown grow5 bel4.size (fun k h => by cases h; exact Nat.le_refl _)
  clear own4 grow5 bel4 src4 hone
  go_wp2
  go_loopw [12, 13] (fun v i wr => ∃ k : Nat, k ≤ 16 ∧ i = .int .i64 (15 - (k : Int)) ∧ v = .slice (some ⟨W3.heap.size, 0, none⟩) (len + k) (len + 32) ∧ wr.ownsRow W3.heap.size 5 1 (.slice (some ⟨W3.heap.size, 0, none⟩) (len + k) (len + 32)) (len + k) (cs ++ dg hi k) ∧ Below W3.heap.size W3 wr)
    (fun _ i _ => (intOf i + 1).toNat)
  case atStart => exact ⟨0, by omega, rfl, rfl, by simpa [dg] using own5, bel5⟩
  case round =>
    clear own5 bel5
    obtain ⟨k, hk, rfl, rfl, ownr, belr⟩ := hrel
    by_cases hlt : k < 16
    · obtain ⟨d, hd, hnib, hbits⟩ := shr_nib hi k h1 hlt
      have HN : Hid (nib hi (15 - k) = d) := hnib
      clear hnib
      go_wp2_with (at_builtin; refine wpList_append_fits _ rfl _ _ 30 rfl W3.heap.size 5 i0 1 Yba.underlying30 hi0 hz1 W3.heap.size (len + k) (len + 32) _ rfl (ownr.alloc _) ⟨wr.heap.size, 0, none⟩ 1 1 [.int .u8 (UInt8.toNat _ : Nat)] rfl rfl (cell_one_new _ _ _) (ints_oneCell .u8 [_]) (by omega) ?_; intro W6 own6 grow6)
      have own7 := own_digit hd HN.out own6
      have bel7 : Below W3.heap.size W3 W6 := (belr.alloc belr.size _).grown grow6 (by simp; have := belr.size; omega) (fun k hk => by cases hk; exact Nat.le_refl _)
      clear own6 grow6 ownr belr
      go_roundw
      case rel => exact ⟨k + 1, by omega, by go_num, rfl, own7, bel7⟩
      case measure => simp [intOf]; omega
    · obtain rfl : k = 16 := by omega
      clear hlt hk
      rw [show (15 - ((16 : Nat) : Int)) = -1 from by omega]
      go_wp2
      go_loopw [12, 14] (fun v i wr => ∃ k : Nat, k ≤ 16 ∧ i = .int .i64 (15 - (k : Int)) ∧ v = .slice (some ⟨W3.heap.size, 0, none⟩) (len + 16 + k) (len + 32) ∧ wr.ownsRow W3.heap.size 5 1 (.slice (some ⟨W3.heap.size, 0, none⟩) (len + 16 + k) (len + 32)) (len + 16 + k) ((cs ++ dg hi 16) ++ dg lo k) ∧ Below W3.heap.size W3 wr)
        (fun _ i _ => (intOf i + 1).toNat)
      case atStart => exact ⟨0, by omega, rfl, rfl, by simpa [dg] using ownr, belr⟩
      case round =>
        clear ownr belr
        obtain ⟨k, hk, rfl, rfl, ownr, belr⟩ := hrel
        by_cases hlt : k < 16
        · obtain ⟨d, hd, hnib, hbits⟩ := shr_nib lo k h2 hlt
          have HN : Hid (nib lo (15 - k) = d) := hnib
          clear hnib
          go_wp2_with (at_builtin; refine wpList_append_fits _ rfl _ _ 30 rfl W3.heap.size 5 i0 1 Yba.underlying30 hi0 hz1 W3.heap.size (len + 16 + k) (len + 32) _ rfl (ownr.alloc _) ⟨wr.heap.size, 0, none⟩ 1 1 [.int .u8 (UInt8.toNat _ : Nat)] rfl rfl (cell_one_new _ _ _) (ints_oneCell .u8 [_]) (by omega) ?_; intro W6 own6 grow6)
          have own7 := own_digit hd HN.out own6
          have bel7 : Below W3.heap.size W3 W6 := (belr.alloc belr.size _).grown grow6 (by simp; have := belr.size; omega) (fun k hk => by cases hk; exact Nat.le_refl _)
          clear own6 grow6 ownr belr
          go_roundw
          case rel => exact ⟨k + 1, by omega, by go_num, rfl, own7, bel7⟩
          case measure => simp [intOf]; omega
        · obtain rfl : k = 16 := by omega
          clear hlt hk
          rw [show len + 16 + 16 = len + 32 from by omega] at ownr ⊢
          have hlenL : (cs ++ dg hi 16 ++ dg lo 16).length = len + 32 := by simpa using ownr.1
          have hu : U8 (cs ++ dg hi 16 ++ dg lo 16) := ((hu8.append (U8.dg _ _)).append (U8.dg _ _))
          have own3' := own_below own3 belr
          have cg : ∀ k z, (cs ++ dg hi 16 ++ dg lo 16)[k]? = some (.int .u8 z) → k < len + 32 → wr.cell? ⟨g, k, none⟩ = some (.int .u8 z) := fun k z e h => (own3'.cellAt k (by omega)).trans e
          have cw : ∀ k z, (cs ++ dg hi 16 ++ dg lo 16)[k]? = some (.int .u8 z) → k < len + 32 → wr.cell? ⟨W3.heap.size, k, none⟩ = some (.int .u8 z) := fun k z e h => (ownr.cellAt k (by omega)).trans e
          have CG : Hid _ := cg
          have CW : Hid _ := cw
          have HU : Hid (U8 _) := hu
          have HLL : Hid _ := hlenL
          clear cg cw hu hlenL own3' ownr own3
          go_wp2
          go_loopw [15] (fun i wx => ∃ k q : Nat, k ≤ len + 32 ∧ i = .int .i64 k ∧ wx = wr.drewN q) (fun i _ => len + 32 - (intOf i).toNat)
          case atStart => exact ⟨0, 0, by omega, rfl, rfl⟩
          case round =>
            obtain ⟨k, q, hk, rfl, rfl⟩ := hrel
            by_cases hlt : k < len + 32
            · obtain ⟨z, hz⟩ := U8.look (k := k) HU.out (by rw [HLL.out]; exact hlt)
              have g1 := CG.out k z hz hlt
              have g2 := CW.out k z hz hlt
              have hi1 : (k : Int) < (len : Int) + 32 := by omega
              clear hz
              go_wp2
              go_quiet (fail)
              go_wp2
              go_roundw
              case rel => exact ⟨k + 1, _, by omega, by go_num, rfl⟩
              case measure => simp [intOf]; omega
            · go_wp2
              go_ret
              exact ⟨rfl, below_dN (belA.trans (belr.mono belA.size))⟩

set_option maxHeartbeats 4000000 in
set_option maxRecDepth 100000 in
theorem core_some_short (ad : Addr) (len cap : Nat) (cs : List Value) (hi lo : Nat) (m : Int) (w : World) (h1 : hi < 18446744073709551616) (h2 : lo < 18446744073709551616)
    (hl : len ≤ 1024) (hcs : cs.length = len) (hone : ∀ u ∈ cs, u.oneCell' = true) (hu8 : U8 cs) (hsrc : Src w (some ad) cs) (hm : (bits BinOp.and IntKind.u8 m 32 != 0) = false) :
    Calls Yba.prog 5 #[.slice (some ad) len cap, .int .u64 hi, .int .u64 lo, .int .u8 m] w fun e w' => e = .returned (.bool true) ∧ Below w.heap.size w w' := by
  obtain ⟨i0, hi0, hz0, hz1, hz2⟩ := info_parts info5
  have hne := fun wx => run_neq_slice_nil_any (P := Yba.prog) wx 30 5 (some ad) len cap 0 0 Yba.underlying30
  go_enter Yba.func5, Yba.ntmps5
  go_wp2_with (at_make; refine wpList_make_full _ rfl _ _ 30 rfl w.heap.size 5 i0 (.int .u8 0) 1 Yba.underlying30 hi0 hz0 hz1 _ _ _ _ len rfl rfl (by omega) (by omega) ?b2 ?b3 (Nat.le_refl _) ?_)
  case b2 => rw [hz2]; omega
  case b3 => unfold maxLen; omega
  intro W1 own1 grow1
  obtain ⟨cur, hcur, hlen⟩ := row_block own1
  have bel1 : Below w.heap.size w W1 := (Below.refl _ _).grown grow1 (Nat.le_refl _) (fun k h => by cases h)
  clear own1 grow1
  go_wp2_with (refine wpList_copy_splice rfl (.tmp 24) (.tmp 25) 30 30 rfl 5 Yba.underlying30 size5 (some ⟨w.heap.size, 0, none⟩) (some ad) len len len cap rfl rfl w.heap.size 0 cur 5 hcur cs ?c1 ?c2 ?c3 hone w.heap.size w bel1 (Nat.le_refl _) ?_)
  case c1 => simp [hcs]
  case c2 => intro _; exact fun j u hj => (hsrc.below bel1) ad rfl j u hj
  case c3 => omega
  intro W2 hW2 bel2
  have own2 : W2.ownsRow w.heap.size 5 1 (.slice (some ⟨w.heap.size, 0, none⟩) len len) len cs := own_of hW2.out hlen hcs (by omega)
  clear hcur hlen bel1 hW2 hne
  go_wp2_with fail
  refine (ref_short w.heap.size len hi lo m h2 hm _ cs W2 own2 bel2.size (by omega)).mono ?_
  rintro e W3 ⟨v3, rfl, own3, bel3⟩
  have belA : Below w.heap.size w W3 := bel2.trans bel3
  have src3 : Src W3 (some ad) cs := hsrc.below belA
  obtain ⟨g, c, hv3⟩ := own_shape own3 (by omega)
  subst hv3
  have HL : Hid (cs ++ hx (lo / 4294967296) ++ hx (lo % 4294967296) = cs ++ dg lo 16) := by show cs ++ hx (lo / 4294967296) ++ hx (lo % 4294967296) = cs ++ dg lo 16; simp only [dg16, List.append_assoc]
  rw [HL.out] at own3
  clear own2 bel2 bel3 hsrc HL
  go_wp2_with (at_make; refine wpList_make_own _ rfl _ _ 30 rfl W3.heap.size 5 i0 (.int .u8 0) 1 Yba.underlying30 hi0 hz0 hz1 _ _ _ (len + 32) rfl rfl (by omega) ?d2 ?d3 (Nat.le_refl _) ?_)
  case d2 => rw [hz2]; omega
  case d3 => unfold maxLen; omega
  intro W4 own4 grow4
  have bel4 : Below W3.heap.size W3 W4 := (Below.refl _ _).grown grow4 (Nat.le_refl _) (fun k h => by cases h)
  have src4 : Src W4 (some ad) cs := src3.below bel4
  clear grow4 src3
  go_wp2_with (at_builtin; refine wpList_append_fits_any _ rfl (.tmp 38) (.tmp 39) 30 rfl W3.heap.size 5 i0 1 Yba.underlying30 hi0 hz1 W3.heap.size 0 (len + 32) _ rfl own4 (some ad) len cap cs rfl (by omega) (fun h => by cases h) src4 hone (by omega) ?_)
  intro W5 own5 grow5
  have bel5 : Below W3.heap.size W3 W5 := bel4.grown grow5 bel4.size (fun k h => by cases h; exact Nat.le_refl _)
  clear own4 grow5 bel4 src4 hone
  go_wp2
  go_loopw [12, 14] (fun v i wr => ∃ k : Nat, k ≤ 16 ∧ i = .int .i64 (15 - (k : Int)) ∧ v = .slice (some ⟨W3.heap.size, 0, none⟩) (len + k) (len + 32) ∧ wr.ownsRow W3.heap.size 5 1 (.slice (some ⟨W3.heap.size, 0, none⟩) (len + k) (len + 32)) (len + k) (cs ++ dg lo k) ∧ Below W3.heap.size W3 wr)
    (fun _ i _ => (intOf i + 1).toNat)
  case atStart => exact ⟨0, by omega, rfl, rfl, by simpa [dg] using own5, bel5⟩
  case round =>
    clear own5 bel5
    obtain ⟨k, hk, rfl, rfl, ownr, belr⟩ := hrel
    by_cases hlt : k < 16
    · obtain ⟨d, hd, hnib, hbits⟩ := shr_nib lo k h2 hlt
      have HN : Hid (nib lo (15 - k) = d) := hnib
      clear hnib
      go_wp2_with (at_builtin; refine wpList_append_fits _ rfl _ _ 30 rfl W3.heap.size 5 i0 1 Yba.underlying30 hi0 hz1 W3.heap.size (len + k) (len + 32) _ rfl (ownr.alloc _) ⟨wr.heap.size, 0, none⟩ 1 1 [.int .u8 (UInt8.toNat _ : Nat)] rfl rfl (cell_one_new _ _ _) (ints_oneCell .u8 [_]) (by omega) ?_; intro W6 own6 grow6)
      have own7 := own_digit hd HN.out own6
      have bel7 : Below W3.heap.size W3 W6 := (belr.alloc belr.size _).grown grow6 (by simp; have := belr.size; omega) (fun k hk => by cases hk; exact Nat.le_refl _)
      clear own6 grow6 ownr belr
      go_roundw
      case rel => exact ⟨k + 1, by omega, by go_num, rfl, own7, bel7⟩
      case measure => simp [intOf]; omega
    · obtain rfl : k = 16 := by omega
      clear hlt hk
      skip
      have hlenL : (cs ++ dg lo 16).length = len + 16 := by simpa using ownr.1
      have hu : U8 (cs ++ dg lo 16) := (hu8.append (U8.dg _ _))
      have own3' := own_below own3 belr
      have cg : ∀ k z, (cs ++ dg lo 16)[k]? = some (.int .u8 z) → k < len + 16 → wr.cell? ⟨g, k, none⟩ = some (.int .u8 z) := fun k z e h => (own3'.cellAt k (by omega)).trans e
      have cw : ∀ k z, (cs ++ dg lo 16)[k]? = some (.int .u8 z) → k < len + 16 → wr.cell? ⟨W3.heap.size, k, none⟩ = some (.int .u8 z) := fun k z e h => (ownr.cellAt k (by omega)).trans e
      have CG : Hid _ := cg
      have CW : Hid _ := cw
      have HU : Hid (U8 _) := hu
      have HLL : Hid _ := hlenL
      clear cg cw hu hlenL own3' ownr own3
      go_wp2
      go_loopw [15] (fun i wx => ∃ k q : Nat, k ≤ len + 16 ∧ i = .int .i64 k ∧ wx = wr.drewN q) (fun i _ => len + 16 - (intOf i).toNat)
      case atStart => exact ⟨0, 0, by omega, rfl, rfl⟩
      case round =>
        obtain ⟨k, q, hk, rfl, rfl⟩ := hrel
        by_cases hlt : k < len + 16
        · obtain ⟨z, hz⟩ := U8.look (k := k) HU.out (by rw [HLL.out]; exact hlt)
          have g1 := CG.out k z hz hlt
          have g2 := CW.out k z hz hlt
          have hi1 : (k : Int) < (len : Int) + 16 := by omega
          clear hz
          go_wp2
          go_quiet (fail)
          go_wp2
          go_roundw
          case rel => exact ⟨k + 1, _, by omega, by go_num, rfl⟩
          case measure => simp [intOf]; omega
        · go_wp2
          go_ret
          exact ⟨rfl, below_dN (belA.trans (belr.mono belA.size))⟩

set_option maxHeartbeats 4000000 in
set_option maxRecDepth 100000 in
theorem core_nil_long (len cap : Nat) (cs : List Value) (hi lo : Nat) (m : Int) (w : World) (h1 : hi < 18446744073709551616) (h2 : lo < 18446744073709551616)
    (hl : len ≤ 1024) (hcs : cs.length = len) (hone : ∀ u ∈ cs, u.oneCell' = true) (hu8 : U8 cs) (hsrc : Src w none cs) (hH : Hid (len = 0 ∧ cap = 0)) (hm : (bits BinOp.and IntKind.u8 m 32 != 0) = true) :
    Calls Yba.prog 5 #[.slice none len cap, .int .u64 hi, .int .u64 lo, .int .u8 m] w fun e w' => e = .returned (.bool true) ∧ Below w.heap.size w w' := by
  obtain ⟨i0, hi0, hz0, hz1, hz2⟩ := info_parts info5
  have hne := fun wx => run_neq_slice_nil_any (P := Yba.prog) wx 30 5 none len cap 0 0 Yba.underlying30
  have own2 : w.ownsRow w.heap.size 5 1 (.slice none 0 0) len cs := by
    obtain ⟨rfl, _⟩ := hH.out
    obtain rfl : cs = [] := List.eq_nil_of_length_eq_zero hcs
    exact World.ownsRow_nil _ _ _ _
  have bel2 : Below w.heap.size w w := Below.refl _ _
  go_enter Yba.func5, Yba.ntmps5
  go_wp2_with fail
  refine (ref_long w.heap.size len hi lo m h1 h2 hm _ cs w own2 bel2.size (by omega)).mono ?_
  rintro e W3 ⟨v3, rfl, own3, bel3⟩
  have belA : Below w.heap.size w W3 := bel2.trans bel3
  have src3 : Src W3 none cs := hsrc.below belA
  obtain ⟨g, c, hv3⟩ := own_shape own3 (by omega)
  subst hv3
  have HL : Hid (cs ++ hx (hi / 4294967296) ++ hx (hi % 4294967296) ++ hx (lo / 4294967296) ++ hx (lo % 4294967296) = cs ++ dg hi 16 ++ dg lo 16) := by show cs ++ hx (hi / 4294967296) ++ hx (hi % 4294967296) ++ hx (lo / 4294967296) ++ hx (lo % 4294967296) = cs ++ dg hi 16 ++ dg lo 16; simp only [dg16, List.append_assoc]
  rw [HL.out] at own3
  clear own2 bel2 bel3 hsrc HL
  go_wp2_with (at_make; refine wpList_make_own _ rfl _ _ 30 rfl W3.heap.size 5 i0 (.int .u8 0) 1 Yba.underlying30 hi0 hz0 hz1 _ _ _ (len + 32) rfl rfl (by omega) ?d2 ?d3 (Nat.le_refl _) ?_)
  case d2 => rw [hz2]; omega
  case d3 => unfold maxLen; omega
  intro W4 own4 grow4
  have bel4 : Below W3.heap.size W3 W4 := (Below.refl _ _).grown grow4 (Nat.le_refl _) (fun k h => by cases h)
  have src4 : Src W4 none cs := src3.below bel4
  clear grow4 src3
  go_wp2_with (at_builtin; refine wpList_append_fits_any _ rfl (.tmp 38) (.tmp 39) 30 rfl W3.heap.size 5 i0 1 Yba.underlying30 hi0 hz1 W3.heap.size 0 (len + 32) _ rfl own4 none len cap cs rfl (by omega) (fun _ => hH.out) src4 hone (by omega) ?_)
  intro W5 own5 grow5
  have bel5 : Below W3.heap.size W3 W5 := bel4.grown grow5 bel4.size (fun k h => by cases h; exact Nat.le_refl _)
  clear own4 grow5 bel4 src4 hone
  go_wp2
  go_loopw [12, 13] (fun v i wr => ∃ k : Nat, k ≤ 16 ∧ i = .int .i64 (15 - (k : Int)) ∧ v = .slice (some ⟨W3.heap.size, 0, none⟩) (len + k) (len + 32) ∧ wr.ownsRow W3.heap.size 5 1 (.slice (some ⟨W3.heap.size, 0, none⟩) (len + k) (len + 32)) (len + k) (cs ++ dg hi k) ∧ Below W3.heap.size W3 wr)
    (fun _ i _ => (intOf i + 1).toNat)
  case atStart => exact ⟨0, by omega, rfl, rfl, by simpa [dg] using own5, bel5⟩
  case round =>
    clear own5 bel5
    obtain ⟨k, hk, rfl, rfl, ownr, belr⟩ := hrel
    by_cases hlt : k < 16
    · obtain ⟨d, hd, hnib, hbits⟩ := shr_nib hi k h1 hlt
      have HN : Hid (nib hi (15 - k) = d) := hnib
      clear hnib
      go_wp2_with (at_builtin; refine wpList_append_fits _ rfl _ _ 30 rfl W3.heap.size 5 i0 1 Yba.underlying30 hi0 hz1 W3.heap.size (len + k) (len + 32) _ rfl (ownr.alloc _) ⟨wr.heap.size, 0, none⟩ 1 1 [.int .u8 (UInt8.toNat _ : Nat)] rfl rfl (cell_one_new _ _ _) (ints_oneCell .u8 [_]) (by omega) ?_; intro W6 own6 grow6)
      have own7 := own_digit hd HN.out own6
      have bel7 : Below W3.heap.size W3 W6 := (belr.alloc belr.size _).grown grow6 (by simp; have := belr.size; omega) (fun k hk => by cases hk; exact Nat.le_refl _)
      clear own6 grow6 ownr belr
      go_roundw
      case rel => exact ⟨k + 1, by omega, by go_num, rfl, own7, bel7⟩
      case measure => simp [intOf]; omega
    · obtain rfl : k = 16 := by omega
      clear hlt hk
      rw [show (15 - ((16 : Nat) : Int)) = -1 from by omega]
      go_wp2
      go_loopw [12, 14] (fun v i wr => ∃ k : Nat, k ≤ 16 ∧ i = .int .i64 (15 - (k : Int)) ∧ v = .slice (some ⟨W3.heap.size, 0, none⟩) (len + 16 + k) (len + 32) ∧ wr.ownsRow W3.heap.size 5 1 (.slice (some ⟨W3.heap.size, 0, none⟩) (len + 16 + k) (len + 32)) (len + 16 + k) ((cs ++ dg hi 16) ++ dg lo k) ∧ Below W3.heap.size W3 wr)
        (fun _ i _ => (intOf i + 1).toNat)
      case atStart => exact ⟨0, by omega, rfl, rfl, by simpa [dg] using ownr, belr⟩
      case round =>
        clear ownr belr
        obtain ⟨k, hk, rfl, rfl, ownr, belr⟩ := hrel
        by_cases hlt : k < 16
        · obtain ⟨d, hd, hnib, hbits⟩ := shr_nib lo k h2 hlt
          have HN : Hid (nib lo (15 - k) = d) := hnib
          clear hnib
          go_wp2_with (at_builtin; refine wpList_append_fits _ rfl _ _ 30 rfl W3.heap.size 5 i0 1 Yba.underlying30 hi0 hz1 W3.heap.size (len + 16 + k) (len + 32) _ rfl (ownr.alloc _) ⟨wr.heap.size, 0, none⟩ 1 1 [.int .u8 (UInt8.toNat _ : Nat)] rfl rfl (cell_one_new _ _ _) (ints_oneCell .u8 [_]) (by omega) ?_; intro W6 own6 grow6)
          have own7 := own_digit hd HN.out own6
          have bel7 : Below W3.heap.size W3 W6 := (belr.alloc belr.size _).grown grow6 (by simp; have := belr.size; omega) (fun k hk => by cases hk; exact Nat.le_refl _)
          clear own6 grow6 ownr belr
          go_roundw
          case rel => exact ⟨k + 1, by omega, by go_num, rfl, own7, bel7⟩
          case measure => simp [intOf]; omega
        · obtain rfl : k = 16 := by omega
          clear hlt hk
          rw [show len + 16 + 16 = len + 32 from by omega] at ownr ⊢
          have hlenL : (cs ++ dg hi 16 ++ dg lo 16).length = len + 32 := by simpa using ownr.1
          have hu : U8 (cs ++ dg hi 16 ++ dg lo 16) := ((hu8.append (U8.dg _ _)).append (U8.dg _ _))
          have own3' := own_below own3 belr
          have cg : ∀ k z, (cs ++ dg hi 16 ++ dg lo 16)[k]? = some (.int .u8 z) → k < len + 32 → wr.cell? ⟨g, k, none⟩ = some (.int .u8 z) := fun k z e h => (own3'.cellAt k (by omega)).trans e
          have cw : ∀ k z, (cs ++ dg hi 16 ++ dg lo 16)[k]? = some (.int .u8 z) → k < len + 32 → wr.cell? ⟨W3.heap.size, k, none⟩ = some (.int .u8 z) := fun k z e h => (ownr.cellAt k (by omega)).trans e
          have CG : Hid _ := cg
          have CW : Hid _ := cw
          have HU : Hid (U8 _) := hu
          have HLL : Hid _ := hlenL
          clear cg cw hu hlenL own3' ownr own3
          go_wp2
          go_loopw [15] (fun i wx => ∃ k q : Nat, k ≤ len + 32 ∧ i = .int .i64 k ∧ wx = wr.drewN q) (fun i _ => len + 32 - (intOf i).toNat)
          case atStart => exact ⟨0, 0, by omega, rfl, rfl⟩
          case round =>
            obtain ⟨k, q, hk, rfl, rfl⟩ := hrel
            by_cases hlt : k < len + 32
            · obtain ⟨z, hz⟩ := U8.look (k := k) HU.out (by rw [HLL.out]; exact hlt)
              have g1 := CG.out k z hz hlt
              have g2 := CW.out k z hz hlt
              have hi1 : (k : Int) < (len : Int) + 32 := by omega
              clear hz
              go_wp2
              go_quiet (fail)
              go_wp2
              go_roundw
              case rel => exact ⟨k + 1, _, by omega, by go_num, rfl⟩
              case measure => simp [intOf]; omega
            · go_wp2
              go_ret
              exact ⟨rfl, below_dN (belA.trans (belr.mono belA.size))⟩

set_option maxHeartbeats 4000000 in
set_option maxRecDepth 100000 in
theorem core_nil_short (len cap : Nat) (cs : List Value) (hi lo : Nat) (m : Int) (w : World) (h1 : hi < 18446744073709551616) (h2 : lo < 18446744073709551616)
    (hl : len ≤ 1024) (hcs : cs.length = len) (hone : ∀ u ∈ cs, u.oneCell' = true) (hu8 : U8 cs) (hsrc : Src w none cs) (hH : Hid (len = 0 ∧ cap = 0)) (hm : (bits BinOp.and IntKind.u8 m 32 != 0) = false) :
    Calls Yba.prog 5 #[.slice none len cap, .int .u64 hi, .int .u64 lo, .int .u8 m] w fun e w' => e = .returned (.bool true) ∧ Below w.heap.size w w' := by
  obtain ⟨i0, hi0, hz0, hz1, hz2⟩ := info_parts info5
  have hne := fun wx => run_neq_slice_nil_any (P := Yba.prog) wx 30 5 none len cap 0 0 Yba.underlying30
  have own2 : w.ownsRow w.heap.size 5 1 (.slice none 0 0) len cs := by
    obtain ⟨rfl, _⟩ := hH.out
    obtain rfl : cs = [] := List.eq_nil_of_length_eq_zero hcs
    exact World.ownsRow_nil _ _ _ _
  have bel2 : Below w.heap.size w w := Below.refl _ _
  go_enter Yba.func5, Yba.ntmps5
  go_wp2_with fail
  refine (ref_short w.heap.size len hi lo m h2 hm _ cs w own2 bel2.size (by omega)).mono ?_
  rintro e W3 ⟨v3, rfl, own3, bel3⟩
  have belA : Below w.heap.size w W3 := bel2.trans bel3
  have src3 : Src W3 none cs := hsrc.below belA
  obtain ⟨g, c, hv3⟩ := own_shape own3 (by omega)
  subst hv3
  have HL : Hid (cs ++ hx (lo / 4294967296) ++ hx (lo % 4294967296) = cs ++ dg lo 16) := by show cs ++ hx (lo / 4294967296) ++ hx (lo % 4294967296) = cs ++ dg lo 16; simp only [dg16, List.append_assoc]
  rw [HL.out] at own3
  clear own2 bel2 bel3 hsrc HL
  go_wp2_with (at_make; refine wpList_make_own _ rfl _ _ 30 rfl W3.heap.size 5 i0 (.int .u8 0) 1 Yba.underlying30 hi0 hz0 hz1 _ _ _ (len + 32) rfl rfl (by omega) ?d2 ?d3 (Nat.le_refl _) ?_)
  case d2 => rw [hz2]; omega
  case d3 => unfold maxLen; omega
  intro W4 own4 grow4
  have bel4 : Below W3.heap.size W3 W4 := (Below.refl _ _).grown grow4 (Nat.le_refl _) (fun k h => by cases h)
  have src4 : Src W4 none cs := src3.below bel4
  clear grow4 src3
  go_wp2_with (at_builtin; refine wpList_append_fits_any _ rfl (.tmp 38) (.tmp 39) 30 rfl W3.heap.size 5 i0 1 Yba.underlying30 hi0 hz1 W3.heap.size 0 (len + 32) _ rfl own4 none len cap cs rfl (by omega) (fun _ => hH.out) src4 hone (by omega) ?_)
  intro W5 own5 grow5
  have bel5 : Below W3.heap.size W3 W5 := bel4.grown grow5 bel4.size (fun k h => by cases h; exact Nat.le_refl _)
  clear own4 grow5 bel4 src4 hone
  go_wp2
  go_loopw [12, 14] (fun v i wr => ∃ k : Nat, k ≤ 16 ∧ i = .int .i64 (15 - (k : Int)) ∧ v = .slice (some ⟨W3.heap.size, 0, none⟩) (len + k) (len + 32) ∧ wr.ownsRow W3.heap.size 5 1 (.slice (some ⟨W3.heap.size, 0, none⟩) (len + k) (len + 32)) (len + k) (cs ++ dg lo k) ∧ Below W3.heap.size W3 wr)
    (fun _ i _ => (intOf i + 1).toNat)
  case atStart => exact ⟨0, by omega, rfl, rfl, by simpa [dg] using own5, bel5⟩
  case round =>
    clear own5 bel5
    obtain ⟨k, hk, rfl, rfl, ownr, belr⟩ := hrel
    by_cases hlt : k < 16
    · obtain ⟨d, hd, hnib, hbits⟩ := shr_nib lo k h2 hlt
      have HN : Hid (nib lo (15 - k) = d) := hnib
      clear hnib
      go_wp2_with (at_builtin; refine wpList_append_fits _ rfl _ _ 30 rfl W3.heap.size 5 i0 1 Yba.underlying30 hi0 hz1 W3.heap.size (len + k) (len + 32) _ rfl (ownr.alloc _) ⟨wr.heap.size, 0, none⟩ 1 1 [.int .u8 (UInt8.toNat _ : Nat)] rfl rfl (cell_one_new _ _ _) (ints_oneCell .u8 [_]) (by omega) ?_; intro W6 own6 grow6)
      have own7 := own_digit hd HN.out own6
      have bel7 : Below W3.heap.size W3 W6 := (belr.alloc belr.size _).grown grow6 (by simp; have := belr.size; omega) (fun k hk => by cases hk; exact Nat.le_refl _)
      clear own6 grow6 ownr belr
      go_roundw
      case rel => exact ⟨k + 1, by omega, by go_num, rfl, own7, bel7⟩
      case measure => simp [intOf]; omega
    · obtain rfl : k = 16 := by omega
      clear hlt hk
      skip
      have hlenL : (cs ++ dg lo 16).length = len + 16 := by simpa using ownr.1
      have hu : U8 (cs ++ dg lo 16) := (hu8.append (U8.dg _ _))
      have own3' := own_below own3 belr
      have cg : ∀ k z, (cs ++ dg lo 16)[k]? = some (.int .u8 z) → k < len + 16 → wr.cell? ⟨g, k, none⟩ = some (.int .u8 z) := fun k z e h => (own3'.cellAt k (by omega)).trans e
      have cw : ∀ k z, (cs ++ dg lo 16)[k]? = some (.int .u8 z) → k < len + 16 → wr.cell? ⟨W3.heap.size, k, none⟩ = some (.int .u8 z) := fun k z e h => (ownr.cellAt k (by omega)).trans e
      have CG : Hid _ := cg
      have CW : Hid _ := cw
      have HU : Hid (U8 _) := hu
      have HLL : Hid _ := hlenL
      clear cg cw hu hlenL own3' ownr own3
      go_wp2
      go_loopw [15] (fun i wx => ∃ k q : Nat, k ≤ len + 16 ∧ i = .int .i64 k ∧ wx = wr.drewN q) (fun i _ => len + 16 - (intOf i).toNat)
      case atStart => exact ⟨0, 0, by omega, rfl, rfl⟩
      case round =>
        obtain ⟨k, q, hk, rfl, rfl⟩ := hrel
        by_cases hlt : k < len + 16
        · obtain ⟨z, hz⟩ := U8.look (k := k) HU.out (by rw [HLL.out]; exact hlt)
          have g1 := CG.out k z hz hlt
          have g2 := CW.out k z hz hlt
          have hi1 : (k : Int) < (len : Int) + 16 := by omega
          clear hz
          go_wp2
          go_quiet (fail)
          go_wp2
          go_roundw
          case rel => exact ⟨k + 1, _, by omega, by go_num, rfl⟩
          case measure => simp [intOf]; omega
        · go_wp2
          go_ret
          exact ⟨rfl, below_dN (belA.trans (belr.mono belA.size))⟩

/-! ### STEP 1: THE WALK: the Go text returns true, AND WRITES NOTHING THAT WAS THERE: 'Below w.heap.size w w'' (Derived/Below.lean: '.refl', '.alloc', '.drew', '.setCell' at a new block, '.trans'). Open each 'IsRow' by 'rcases' AHEAD of 'go_enter'; part every test ahead of the walk. -/
theorem walk (a0 : Option Addr) (len0 cap0 : Nat) (z0 : List Int) (a1 : Int) (a2 : Int) (a3 : Int) (w : World) (w0 : IsRow .u8 w a0 len0 cap0 z0) (w1 : (Lit.int .u64 a1).wf = true) (w2 : (Lit.int .u64 a2).wf = true) (w3 : (Lit.int .u8 a3).wf = true) :
    Calls Yba.prog 5 #[.slice a0 len0 cap0, .int .u64 a1, .int .u64 a2, .int .u8 a3] w fun e w' => e = .returned (.bool true) ∧ Below w.heap.size w w' := by
  obtain ⟨hi, rfl⟩ := Int.eq_ofNat_of_zero_le (bounds_u64 w1).1
  obtain ⟨lo, rfl⟩ := Int.eq_ofNat_of_zero_le (bounds_u64 w2).1
  have h1 : hi < 18446744073709551616 := by have := (bounds_u64 w1).2; omega
  have h2 : lo < 18446744073709551616 := by have := (bounds_u64 w2).2; omega
  clear w1 w2 w3
  by_cases hl : len0 ≤ 1024
  · obtain ⟨cs, hcs, hone, hu8, hsrc, hnil, _⟩ := src_of_row w0
    cases a0 with
    | none =>
      cases hm : (bits BinOp.and IntKind.u8 a3 32 != 0)
      · exact core_nil_short len0 cap0 cs hi lo a3 w h1 h2 hl hcs hone hu8 hsrc (hnil rfl) hm
      · exact core_nil_long len0 cap0 cs hi lo a3 w h1 h2 hl hcs hone hu8 hsrc (hnil rfl) hm
    | some ad =>
      cases hm : (bits BinOp.and IntKind.u8 a3 32 != 0)
      · exact core_some_short ad len0 cap0 cs hi lo a3 w h1 h2 hl hcs hone hu8 hsrc hm
      · exact core_some_long ad len0 cap0 cs hi lo a3 w h1 h2 hl hcs hone hu8 hsrc hm
  · have hl' : 1024 < len0 := by omega
    clear hl w0
    go_enter Yba.func5, Yba.ntmps5
    go_wp2
    go_ret
    exact ⟨rfl, Below.refl _ _⟩

/-! ### THE ROW's STEP: WRITTEN OUT: LEAVE IT -/
set_option maxRecDepth 100000 in
theorem lifted (os : Os) (started : os.Started) (H : Type) (enc : TypeId × Value → H) :
    ReturnsInHanded {} Yba.checked os 5 .any (Rows.lawS0232CHexDigitsSpec.pre6 enc Yba.prog Yba.f5 Rows.lawS0232CHexDigitsRow.domain false) (Rows.lawS0232CHexDigitsSpec.post enc Yba.prog Yba.f5 false true false false) := by
  refine returnsInHanded_of_change (C := Yba.checked) own started (by kernel_rfl) Yba.func5
    (ChangeSpec.witness6 (enc := enc) (C := Yba.checked) false ⟨#[], #[.slice none 0 0, .int .u64 0, .int .u64 0, .int .u8 0], []⟩ 8 (by kernel_rfl) (by kernel_rfl) (by kernel_rfl) (by kernel_rfl)) ?_
  intro W base args ds gs before hval0 hW hcnd _
  have hval : ∀ (j : Nat) t v, Yba.f5.params[j]? = some t → args[j]? = some v → Value.okWide Yba.prog W .any base t v := hval0
  have hW' := hW
  obtain ⟨p, q, hA0, hV, rfl, hfz, hnd⟩ := hW
  have hA : DataW.TrodAll enc Yba.prog W 0 (fun _ => true) true Yba.f5.params.toList args.toList ds p := hA0
  rw [Yba.params5] at hA hval
  obtain ⟨v0, vs0, d0, ds0, p0, q0, hargs, rfl, rfl, h0, r0⟩ := trodAll_cons hA
  obtain ⟨v1, vs1, d1, ds1, p1, q1, rfl, rfl, rfl, h1, r1⟩ := trodAll_cons r0
  obtain ⟨v2, vs2, d2, ds2, p2, q2, rfl, rfl, rfl, h2, r2⟩ := trodAll_cons r1
  obtain ⟨v3, vs3, d3, ds3, p3, q3, rfl, rfl, rfl, h3, r3⟩ := trodAll_cons r2
  obtain ⟨rfl, rfl, rfl⟩ := trodAll_nil r3
  obtain rfl : args = #[v0, v1, v2, v3] := by cases args; simp_all
  obtain ⟨rfl, rfl⟩ := trodVars_none hV
  obtain ⟨a0, len0, cap0, rfl⟩ := okWide_slice Yba.underlying30 (hval 0 30 v0 rfl rfl)
  have k0 := h0
  have lt0 : ∀ x ∈ p0, x.block < W.heap.size := by obtain ⟨m, hm⟩ := k0; exact DataW.trod_lt m _ _ _ hm
  obtain ⟨z0, w0⟩ : ∃ zs, IsRow .u8 W a0 len0 cap0 zs := by
    obtain ⟨fuel, hf⟩ := h0
    rcases open_ints Yba.underlying30 Yba.underlying5 (by kernel_rfl) hf with ⟨hcs, _⟩ | ⟨x, l, c, zs, hcs, _, hl, hm, hz, _, hcell, hwz⟩
    · simp [Value.cells] at hcs
      obtain ⟨rfl, rfl, rfl⟩ := hcs
      exact ⟨[], .inl ⟨rfl, rfl, rfl, rfl⟩⟩
    · simp [Value.cells] at hcs
      obtain ⟨rfl, rfl, rfl⟩ := hcs
      exact ⟨zs, .inr ⟨_, rfl, hl, hm, by simpa using hz, hcell, hwz⟩⟩
  obtain ⟨a1, rfl, rfl, rfl, w1⟩ := open_int Yba.underlying31 (hval 1 31 v1 rfl rfl) h1
  obtain ⟨a2, rfl, rfl, rfl, w2⟩ := open_int Yba.underlying31 (hval 2 31 v2 rfl rfl) h2
  obtain ⟨a3, rfl, rfl, rfl, w3⟩ := open_int Yba.underlying5 (hval 3 5 v3 rfl rfl) h3
  clear hA0 hval0
  refine (walk a0 len0 cap0 z0 a1 a2 a3 W w0 w1 w2 w3).mono fun e W' ⟨he, bel⟩ => ?_
  subst he
  exact ⟨_, rfl, _, _, _, [], _, [], hW', trodAll_mk1 (shut_bool Yba.underlying4 _), (trodAll_cons_mk (Below.trod laidOut (by kernel_rfl) (of_decide_eq_true (by kernel_rfl)) k0 bel lt0) (trodAll_cons_mk (shut_int Yba.underlying31 w1) (trodAll_cons_mk (shut_int Yba.underlying31 w2) (trodAll_cons_mk (shut_int Yba.underlying5 w3) trodAll_mk0)))), rfl, bel.frame _, fun h => by cases h⟩

theorem over : Rows.lawS0232CHexDigitsRow.holds Yba.pinned (OpenSpec.ofChange Rows.lawS0232CHexDigitsSpec) :=
  OpenClaim.holds_of_wide 5 Yba.f5 rfl rfl rfl rfl rfl rfl rfl ⟨rfl, rfl, rfl, rfl, rfl⟩ rfl rfl rfl rfl rfl (by kernel_rfl) Yba.func5 (by kernel_rfl)
    (of_decide_eq_true (by kernel_rfl)) (by unfold Func.isWrapper; first | (rw [if_pos (by decide +kernel)]; kernel_rfl) | (rw [if_neg (by decide +kernel)]; exact ⟨rfl, rfl⟩))
    (fun os started H enc _ => lifted os started H enc)

/-- ████ THE STATEMENT ████ -/
theorem proved : Rows.LawS0232CHexDigitsSaid := over
end Go.Proofs.Ybulkdty.lawS0232CHexDigits
