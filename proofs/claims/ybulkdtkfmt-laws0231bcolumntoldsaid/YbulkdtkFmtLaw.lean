/-
  Seat b0231aF: the walk of LawS0231BColumn (3).
-/
import Derived.Test.YbulkdtkFmtWalks
import Derived.Laws.CopyOwn
import Derived.Maps.AppendAt
import Derived.Deep.RegionHeldLaw
import Derived.ProofKit
namespace Go.Proofs.YbulkdtkFmt
open Go.Extern.Stop Go.Stop Go.Extern Go.RowKit

/-- the tokens that came in -/
def Toks (w : World) (a : Option Addr) (len : Nat) : Prop :=
  0 < len → ∃ b off, a = some ⟨b, off, none⟩ ∧ b < w.heap.size ∧ ∀ i, i < len → ∃ (k : Int) (s : ByteArray) (p : Int), w.cell? ⟨b, off + i * 3, none⟩ = some (.int .u8 k) ∧ w.cell? ⟨b, off + i * 3 + 1, none⟩ = some (.string s) ∧ w.cell? ⟨b, off + i * 3 + 2, none⟩ = some (.int .i64 p)
/-- the strings that came in -/
def Strs (w : World) (a : Option Addr) (len : Nat) (ss : Nat → ByteArray) : Prop :=
  0 < len → ∃ b off, a = some ⟨b, off, none⟩ ∧ b < w.heap.size ∧ ∀ i, i < len → w.cell? ⟨b, off + i, none⟩ = some (.string (ss i))
/-- tokens as cells -/
def flat : List (ByteArray × ByteArray × Int) → List Value
  | [] => []
  | t :: r => .string t.1 :: .string t.2.1 :: .int .i64 t.2.2 :: flat r
theorem flat_snoc (T : List (ByteArray × ByteArray × Int)) (t : ByteArray × ByteArray × Int) : flat (T ++ [t]) = flat T ++ [.string t.1, .string t.2.1, .int .i64 t.2.2] := by
  induction T with
  | nil => rfl
  | cons x r ih => simp [flat, ih]
theorem flat_at : ∀ (T : List (ByteArray × ByteArray × Int)) (i : Nat) (h : i < T.length), (flat T)[i * 3]? = some (.string T[i].1) ∧ (flat T)[i * 3 + 1]? = some (.string T[i].2.1) ∧ (flat T)[i * 3 + 2]? = some (.int .i64 T[i].2.2)
  | t :: r, 0, _ => by simp [flat]
  | t :: r, i + 1, h => by
    have := flat_at r i (by simpa using h)
    have e : (i + 1) * 3 = i * 3 + 3 := by omega
    simpa [flat, e] using this
theorem news3 (w : World) (x y z : Value) (t : TypeId) : ∀ j u, [x, y, z][j]? = some u → (w.alloc (.cells #[x, y, z] t)).cell? ((⟨w.heap.size, 0, none⟩ : Addr).add j) = some u := by
  intro j u hj
  rw [WideShapes.add_plain, Nat.zero_add, World.cell?_alloc_at _ _ _ _ rfl]
  simpa using hj
theorem if_wanted {c : Prop} [Decidable c] {A B : Prop} (h : c) (hA : A) : if c then A else B := by rw [if_pos h]; exact hA
theorem far_keep {wr w2 : World} {B n b i e size : Nat} {v : Value} {xs : List Value} {o : Obj} (ho : wr.ownsRow B e size v n xs) (hg : (wr.alloc o).drew.grownBy w2 v.ownBlock) (hb : b < B) (hB : B ≤ wr.heap.size) : w2.cell? ⟨b, i, none⟩ = wr.cell? ⟨b, i, none⟩ := by
  refine World.cell?_of_block ((hg.block b (by show b < (wr.alloc o).heap.size; simp; omega) (fun e => ?_)).trans ?_)
  · have := (ho.lt b e.symm).1
    omega
  · show (wr.alloc o).heap[b]? = _
    exact Below.heap_alloc _ _ _ (by omega)
theorem Strs.below {w w' : World} {a : Option Addr} {len : Nat} {ss : Nat → ByteArray} (h : Strs w a len ss) (hb : Below w.heap.size w w') : Strs w' a len ss := fun hp => by
  obtain ⟨b, off, e, hlt, hc⟩ := h hp
  exact ⟨b, off, e, Nat.lt_of_lt_of_le hlt hb.size, fun i hi => (hb.cell (by exact hlt)).trans (hc i hi)⟩
/-- strings as cells -/
def strc (ss : Nat → ByteArray) (n : Nat) : List Value := (List.range n).map fun i => .string (ss i)
theorem strc_one (ss : Nat → ByteArray) (n : Nat) : ∀ u ∈ strc ss n, u.oneCell' = true := fun u hu => by
  obtain ⟨i, _, rfl⟩ := List.mem_map.1 hu
  rfl
theorem strc_at (ss : Nat → ByteArray) (n j : Nat) (h : j < n) : (strc ss n)[j]? = some (.string (ss j)) := by simp [strc, h]
theorem copy_pos {w : World} {a : Option Addr} {n g : Nat} {ss : Nat → ByteArray} (h : Strs w a n ss) : 0 < (strc ss n).length → (some (⟨g, 0, none⟩ : Addr)) = some ⟨g, 0, none⟩ ∧ ∃ ad, a = some ad ∧ ∀ j v, (strc ss n)[j]? = some v → w.cell? (ad.add j) = some v := fun hp => by
  obtain ⟨b, off, rfl, hlt, hc⟩ := h (by simpa [strc] using hp)
  refine ⟨rfl, _, rfl, fun j v hj => ?_⟩
  have hj' : j < n := by
    have := (List.getElem?_eq_some_iff.1 hj).1
    simpa [strc] using this
  rw [strc_at ss n j hj'] at hj
  rw [WideShapes.add_plain, hc j hj', hj]
theorem size9 : (Ybaf.prog.info? 9).map (·.size) = some 1 := by kernel_rfl
theorem row_block9 {w : World} {B g n cap : Nat} {xs : List Value} (h : w.ownsRow B 9 1 (.slice (some ⟨g, 0, none⟩) n cap) n xs) : ∃ cur : List Value, w.heap[g]? = some (.cells cur.toArray 9 (0, 0)) ∧ cur.length = cap := by
  rcases h.2 with ⟨e, _⟩ | ⟨g', cap', cur, e, _, hg, _, _, hs, _⟩
  · cases e
  · cases e
    exact ⟨cur.toList, by simpa using hg, by simpa using hs⟩
theorem own_of9 {w : World} {B g n : Nat} {cur : List Value} {ss : Nat → ByteArray} (h : w.heap[g]? = some (.cells (splice cur 0 (strc ss n)).toArray 9 (0, 0))) (hc : cur.length = n) (hm : n ≤ 1024) (hB : B ≤ g) :
    w.ownsRow B 9 1 (.slice (some ⟨g, 0, none⟩) n n) n (strc ss n) := by
  have hl : (strc ss n).length = n := by simp [strc]
  have e : splice cur 0 (strc ss n) = strc ss n := by
    unfold splice
    simp [List.drop_eq_nil_of_le (show cur.length ≤ (strc ss n).length by omega)]
  rw [e] at h
  refine ⟨by omega, .inr ⟨g, n, (strc ss n).toArray, rfl, hB, h, Nat.le_refl _, by unfold maxLen; omega, by simp; omega, ?_⟩⟩
  rw [List.take_of_length_le (by simp; omega)]
theorem own_belowE {w w' : World} {B e size n : Nat} {v : Value} {xs : List Value} (h : w.ownsRow B e size v n xs) (hb : Below w.heap.size w w') : w'.ownsRow B e size v n xs := by
  refine ⟨h.1, ?_⟩
  rcases h.2 with hn | ⟨g, cap, cur, rfl, h1, h2, rest⟩
  · exact .inl hn
  · exact .inr ⟨g, cap, cur, rfl, h1, (hb.block g (Array.getElem?_eq_some_iff.1 h2).1).trans h2, rest⟩
theorem law_world {w W4 : World} {b2 len3 g n c at' : Nat} {va : Int} {kd tx : ByteArray} {po : Int} {a3 : Option Addr} {ss : Nat → ByteArray} (own5 : W4.ownsRow w.heap.size 9 1 (.slice (some ⟨b2, 0, none⟩) len3 len3) len3 (strc ss len3)) (belA : Below w.heap.size w W4) (hs4 : Strs W4 a3 len3 ss) :
    ∃ W6, W6 = (W4.alloc (.cells #[.pointer none, .slice (some ⟨g, 0, none⟩) n c, .int .i64 at', .int .i64 0, .int .i64 0, .int .i64 va, .slice (some ⟨b2, 0, none⟩) len3 len3, .int .i64 0] 35)).alloc (.cells #[.string kd, .string tx, .int .i64 po] 31) ∧
      W6.heap[W4.heap.size]? = some (.cells #[.pointer none, .slice (some ⟨g, 0, none⟩) n c, .int .i64 at', .int .i64 0, .int .i64 0, .int .i64 va, .slice (some ⟨b2, 0, none⟩) len3 len3, .int .i64 0] 35 (0, 0)) ∧
      W6.heap[W4.heap.size + 1]? = some (.cells #[.string kd, .string tx, .int .i64 po] 31 (0, 0)) ∧ W6.heap.size = W4.heap.size + 2 ∧
      W6.ownsRow w.heap.size 9 1 (.slice (some ⟨b2, 0, none⟩) len3 len3) len3 (strc ss len3) ∧ Below W4.heap.size W4 W6 ∧ Strs W6 a3 len3 ss ∧ Below w.heap.size w W6 := by
  have b : Below W4.heap.size W4 ((W4.alloc (.cells #[.pointer none, .slice (some ⟨g, 0, none⟩) n c, .int .i64 at', .int .i64 0, .int .i64 0, .int .i64 va, .slice (some ⟨b2, 0, none⟩) len3 len3, .int .i64 0] 35)).alloc (.cells #[.string kd, .string tx, .int .i64 po] 31)) := ((Below.refl _ _).alloc (Nat.le_refl _) _).alloc (by simp) _
  refine ⟨_, rfl, ?_, ?_, by simp, own_belowE own5 b, b, hs4.below b, belA.trans (b.mono belA.size)⟩
  · rw [Below.heap_alloc _ _ _ (by simp)]
    exact heap_alloc_new _ _
  · have := heap_alloc_new (W4.alloc (.cells #[.pointer none, .slice (some ⟨g, 0, none⟩) n c, .int .i64 at', .int .i64 0, .int .i64 0, .int .i64 va, .slice (some ⟨b2, 0, none⟩) len3 len3, .int .i64 0] 35)) (.cells #[.string kd, .string tx, .int .i64 po] 31)
    simpa using this
theorem below_dN {B : Nat} {a w : World} {n : Nat} (h : Below B a w) : Below B a (w.drewN n) := ⟨h.os, h.tape, h.output, h.size, h.block⟩
theorem data_of {s t : ByteArray} (h : s.toList = t.toList) : s = t := by
  rw [ByteArray.toList_eq, ByteArray.toList_eq] at h
  cases s
  cases t
  simp only [ByteArray.mk.injEq]
  exact Array.toList_inj.1 h
theorem isEmpty_false {s : ByteArray} (h : ¬ s = ⟨#[]⟩) : s.toList.isEmpty = false := by
  rw [Bool.eq_false_iff]
  intro e
  exact h (data_of (by rw [List.isEmpty_iff.1 e, ByteArray.toList_eq]))
theorem toList_false {s : ByteArray} (h : ¬ s = ⟨#[113, 117, 111, 116, 101, 100, 32, 110, 97, 109, 101]⟩) : (s.toList == [113, 117, 111, 116, 101, 100, 32, 110, 97, 109, 101]) = false := by
  rw [Bool.eq_false_iff]
  intro e
  exact h (data_of (by rw [eq_of_beq e, ByteArray.toList_eq]))
theorem type_assert (tx : ByteArray) (w : World) : (Instr.typeAssert (.iface 43 (.string tx)) 37 43 true).run Ybaf.prog w = .ok (.tuple #[.string tx, .bool true]) w := by kernel_rfl
theorem twin_below {w W w' : World} {bp len3 : Nat} {v : Value} {xs : List Value} (hb : Below w.heap.size w W) (tw : Twin W w' (some bp) v.ownBlock) (ho : W.ownsRow w.heap.size 9 1 v len3 xs) (hbp : w.heap.size ≤ bp) : Below w.heap.size w w' :=
  ⟨tw.os.trans hb.os, tw.tape.trans hb.tape, tw.output.trans hb.output, Nat.le_trans hb.size tw.size, fun i hi =>
    (tw.block i (Nat.lt_of_lt_of_le hi hb.size) (fun e => by cases e; omega) (fun e => by have := (ho.lt i e.symm).1; omega)).trans (hb.block i hi)⟩
theorem info31 : (Ybaf.prog.info? 31).map (fun i => (i.zero, i.size, i.bytes)) = some (some (.agg #[.string ⟨#[]⟩, .string ⟨#[]⟩, .int .i64 0]), 3, 40) := by kernel_rfl

set_option maxHeartbeats 4000000 in
set_option maxRecDepth 100000 in
theorem law_core (F : Interp) (a0 a3 : Option Addr) (len0 cap0 len3 cap3 : Nat) (ss : Nat → ByteArray) (sel va : Int) (w : World) (hF : F.answers w.tape) (hsel : 0 ≤ sel)
    (ht : Toks w a0 len0) (hs : Strs w a3 len3 ss) (h0 : len0 ≤ 1024) (h3 : len3 ≤ 1024) :
    Calls Ybaf.prog 3 #[.slice a0 len0 cap0, .int .u64 sel, .int .i64 va, .slice a3 len3 cap3] w fun e w' => e = .returned (.bool true) ∧ Below w.heap.size w w' := by
  obtain ⟨i1, hi1, hy0, hy1, hy2⟩ := info_parts info31
  obtain ⟨i0, hi0, hz0, hz1, hz2⟩ := info_parts info9
  have h0' : ¬ (1024 : Int) < (len0 : Int) := by omega
  have h3' : ¬ (1024 : Int) < (len3 : Int) := by omega
  go_enter Ybaf.func3, Ybaf.ntmps3
  go_wp2_with (at_make; refine wpList_make_own _ rfl _ _ 25 rfl w.heap.size 31 i1 (.agg #[.string ⟨#[]⟩, .string ⟨#[]⟩, .int .i64 0]) 3 Ybaf.underlying25 hi1 hy0 hy1 _ _ _ (len0 + 1) rfl rfl (by omega) ?b2 ?b3 (Nat.le_refl _) ?_)
  case b2 => omega
  case b3 => unfold maxLen; omega
  intro W1 own1 grow1
  have bel1 : Below w.heap.size w W1 := (Below.refl _ _).grown grow1 (Nat.le_refl _) (fun k h => by cases h)
  clear grow1
  go_wp2
  go_loopw [9, 10] (fun v i wr => ∃ (k : Nat) (T : List (ByteArray × ByteArray × Int)), k ≤ len0 ∧ i = .int .i64 k ∧ T.length = k ∧ wr.ownsRow w.heap.size 31 3 v k (flat T) ∧ Below w.heap.size w wr)
    (fun _ i _ => len0 - (intOf i).toNat)
  case atStart => exact ⟨0, [], Nat.zero_le _, rfl, rfl, own1, bel1⟩
  case round =>
    clear own1 bel1
    obtain ⟨k, T, hk, rfl, hT, ownr, belr⟩ := hrel
    by_cases hlt : k < len0
    · obtain ⟨b, off, rfl, hb, hc⟩ := ht (by omega)
      obtain ⟨kk, s, p, c0, c1, c2⟩ := hc k hlt
      clear hc ht
      have b1 : (k : Int) < (len0 : Int) := by omega
      have d0 : wr.cell? ⟨b, off + k * 3, none⟩ = some (.int .u8 kk) := (belr.cell (by exact hb)).trans c0
      have d1 : wr.cell? ⟨b, off + k * 3 + 1, none⟩ = some (.string s) := (belr.cell (by exact hb)).trans c1
      have d2 : wr.cell? ⟨b, off + k * 3 + 2, none⟩ = some (.int .i64 p) := (belr.cell (by exact hb)).trans c2
      clear c0 c1 c2
      have hbr : b < wr.heap.size := Nat.lt_of_lt_of_le hb belr.size
      go_wp2
      go_region_held3 (fun w' => w'.cell? ⟨b, off + k * 3, none⟩ = some (.int .u8 kk) ∧ w'.cell? ⟨b, off + k * 3 + 1, none⟩ = some (.string s) ∧ w'.cell? ⟨b, off + k * 3 + 2, none⟩ = some (.int .i64 p)) (go_keep)
        (first
          | (go_at_call 4; refine (kind_any _ _).mono ?_; rintro e w' ⟨⟨s', rfl⟩, rfl⟩)
          | (refine if_wanted (by rfl) ?_; refine wp_append_lies _ (.tmp 37) (.tmp 55) 25 rfl w.heap.size 31 i1 (.agg #[.string ⟨#[]⟩, .string ⟨#[]⟩, .int .i64 0]) 3 40 Ybaf.underlying25 hi1 hy0 hy1 hy2 rfl (by decide) _ k (flat T) rfl (ownr.alloc _).drew ⟨wr.heap.size, 0, none⟩ 1 1 [.string _, .string s, .int .i64 p] rfl rfl (fun j u hj => news3 wr _ _ _ _ j u hj) (by intro u hu; simp at hu; rcases hu with rfl | rfl | rfl <;> rfl) (by decide) (by unfold maxLen; omega) (by omega) (by simp; have := belr.size; omega) _ rfl ?_; intro g2 cap2 w2 ho2 hg2 hat2 hlt2; have k0 : w2.cell? ⟨b, off + k * 3, none⟩ = some (.int .u8 kk) := (far_keep ownr hg2 hb belr.size).trans d0; have k1 : w2.cell? ⟨b, off + k * 3 + 1, none⟩ = some (.string s) := (far_keep ownr hg2 hb belr.size).trans d1; have k2 : w2.cell? ⟨b, off + k * 3 + 2, none⟩ = some (.int .i64 p) := (far_keep ownr hg2 hb belr.size).trans d2))
      have hB2 : Below w.heap.size w w2 := ((belr.alloc belr.size _).drew).grown hg2 (by show w.heap.size ≤ (World.alloc wr _).heap.size; simp; have := belr.size; omega) (fun j hj => (ownr.lt j hj).1)
      have ho3 := hide' ho2
      clear k0 k1 k2 ho2 hg2 hat2 hlt2 ownr belr
      go_wp2
      go_roundw
      case rel => exact ⟨k + 1, T ++ [(s', s, p)], by omega, by go_num, by simp [hT], by rw [flat_snoc]; exact ho3.out, hB2⟩
      case measure => simp [intOf]; omega
    · obtain rfl : k = len0 := by omega
      clear hlt ht hk
      go_wp2_with (at_builtin; refine wpList_append_own _ rfl (.tmp 57) (.tmp 59) 25 rfl w.heap.size 31 i1 (.agg #[.string ⟨#[]⟩, .string ⟨#[]⟩, .int .i64 0]) 3 40 Ybaf.underlying25 hi1 hy0 hy1 hy2 rfl (by decide) _ k (flat T) rfl (ownr.alloc _) ⟨wr.heap.size, 0, none⟩ 1 1 [.string _, .string _, .int .i64 _] rfl rfl (news3 wr _ _ _ _) ?e2 ?e3 ?e4 ?e5 ?_)
      case e2 => intro u hu; simp at hu; rcases hu with rfl | rfl | rfl <;> rfl
      case e3 => unfold maxLen; omega
      case e4 => omega
      case e5 => simp; have := belr.size; omega
      intro v2 W2 own2 grow2 _
      have bel2 : Below w.heap.size w W2 := (belr.alloc belr.size _).grown grow2 (by simp; have := belr.size; omega) (fun j hj => (ownr.lt j hj).1)
      obtain ⟨T2, hT2, own3⟩ : ∃ T2 : List (ByteArray × ByteArray × Int), T2.length = k + 1 ∧ W2.ownsRow w.heap.size 31 3 v2 (k + 1) (flat T2) := ⟨T ++ [(_, _, _)], by simp [hT], by rw [flat_snoc]; exact own2⟩
      clear own2 grow2 ownr belr hT
      obtain ⟨g, c, hv2, hgB, hglt⟩ := own3.form (by omega)
      subst hv2
      go_wp2_with (at_make; refine wpList_make_full _ rfl _ _ 24 rfl W2.heap.size 9 i0 (.string ⟨#[]⟩) 1 Ybaf.underlying24 hi0 hz0 hz1 _ _ _ _ len3 rfl rfl (by omega) (by omega) ?m2 ?m3 (Nat.le_refl _) ?_)
      case m2 => first | omega | (rw [hz2]; omega)
      case m3 => unfold maxLen; omega
      intro W3 own4 grow4
      obtain ⟨cur, hcur, hlen⟩ := row_block9 own4
      have bel3 : Below W2.heap.size W2 W3 := (Below.refl _ _).grown grow4 (Nat.le_refl _) (fun k h => by cases h)
      have hs3 : Strs W3 a3 len3 ss := hs.below (bel2.trans (bel3.mono bel2.size))
      clear own4 grow4
      obtain ⟨at', ha, hat⟩ : ∃ a' : Nat, wrap64 (sel % ((k : Int) + 1)) = (a' : Int) ∧ a' < k + 1 := by
        have h1 := Int.emod_nonneg sel (b := (k : Int) + 1) (by omega)
        have h2 := Int.emod_lt_of_pos sel (b := (k : Int) + 1) (by omega)
        refine ⟨(sel % ((k : Int) + 1)).toNat, ?_, by omega⟩
        unfold wrap64
        omega
      rw [ha]
      clear ha
      go_wp2_with (refine wpList_copy_splice rfl (.tmp 70) (.tmp 71) 24 24 rfl 9 Ybaf.underlying24 size9 (some ⟨W2.heap.size, 0, none⟩) a3 len3 len3 len3 cap3 rfl rfl W2.heap.size 0 cur 9 hcur (strc ss len3) ?n1 (copy_pos hs3) ?n3 (strc_one ss len3) W2.heap.size W2 bel3 (Nat.le_refl _) ?_)
      case n1 => simp [strc]
      case n3 => simp [strc]; omega
      intro W4 hW4 bel4
      have own5 : W4.ownsRow w.heap.size 9 1 (.slice (some ⟨W2.heap.size, 0, none⟩) len3 len3) len3 (strc ss len3) := own_of9 hW4.out hlen (by omega) bel2.size
      have own6 := own_belowE own3 bel4
      have belA : Below w.heap.size w W4 := bel2.trans (bel4.mono bel2.size)
      have hs4 : Strs W4 a3 len3 ss := hs.below belA
      obtain ⟨q0, q1, q2⟩ := flat_at T2 at' (by omega)
      have t0 : W4.cell? ⟨g, at' * 3, none⟩ = _ := (own6.cellAt (at' * 3) (by omega)).trans q0
      have t1 : W4.cell? ⟨g, at' * 3 + 1, none⟩ = _ := (own6.cellAt (at' * 3 + 1) (by omega)).trans q1
      have t2 : W4.cell? ⟨g, at' * 3 + 2, none⟩ = _ := (own6.cellAt (at' * 3 + 2) (by omega)).trans q2
      have hg4 : g < W4.heap.size := Nat.lt_of_lt_of_le hglt bel4.size
      generalize T2[at'].1 = kd at *
      generalize T2[at'].2.1 = tx at *
      generalize T2[at'].2.2 = po at *
      clear hcur hlen bel3 hs3 hW4 own3 own6 q0 q1 q2 bel4
      have bat : (at' : Int) < (k : Int) + 1 := by omega
      go_wp2_with fail
      obtain ⟨W6, e6, hp6, ht6, hsz6, own7, hb6, hs6, bel6⟩ := law_world (va := va) (g := g) (n := k + 1) (c := c) (at' := at') (kd := kd) (tx := tx) (po := po) own5 belA hs4
      have PB : PBox W6 W4.heap.size g (k + 1) c at' va (.slice (some ⟨W2.heap.size, 0, none⟩) len3 len3) kd tx po :=
        ⟨by omega, hat, ⟨_, _, _, _, hp6⟩, by rw [e6]; simpa [World.cell?_alloc_past, hg4, Nat.lt_succ_of_lt hg4] using t0, by rw [e6]; simpa [World.cell?_alloc_past, hg4, Nat.lt_succ_of_lt hg4] using t1, by rw [e6]; simpa [World.cell?_alloc_past, hg4, Nat.lt_succ_of_lt hg4] using t2⟩
      rw [← e6]
      have hF6 : F.answers W6.tape := by rw [bel6.tape]; exact hF
      have belW := belA
      clear t0 t1 t2 e6 own5 belA hs4 bel2 hb6
      by_cases hq : kd = ⟨#[113, 117, 111, 116, 101, 100, 32, 110, 97, 109, 101]⟩
      · subst hq
        by_cases hx : tx = ⟨#[]⟩
        · subst hx
          refine (column_err F W4.heap.size g (k + 1) c at' va _ po W6 hF6 PB).mono ?_
          rintro e w7 ⟨⟨a, rfl⟩, b7⟩
          have p7 := (b7.block W4.heap.size (by omega)).trans hp6
          have t7 := (b7.block (W4.heap.size + 1) (by omega)).trans ht6
          have own8 := own_belowE own7 b7
          have hs7 : Strs w7 a3 len3 ss := hs6.below b7
          have belZ : Below w.heap.size w w7 := bel6.trans (b7.mono bel6.size)
          have c2 := (box_cell p7 2).trans rfl
          have c5 := (box_cell p7 5).trans rfl
          have c6 := (box_cell p7 6).trans rfl
          have x0 := (box_cell t7 0).trans rfl
          have x1 := (box_cell t7 1).trans rfl
          have hA : 0 < len3 → ∃ g' o', (some (⟨W2.heap.size, 0, none⟩ : Addr)) = some ⟨g', o', none⟩ ∧ ∀ i, i < len3 → w7.cell? ⟨g', o' + i, none⟩ = some (.string (ss i)) := fun _ => ⟨_, _, rfl, fun i hi => by rw [Nat.zero_add, own8.cellAt i (by omega), strc_at ss len3 i hi]⟩
          have hBs : 0 < len3 → ∃ g' o', a3 = some ⟨g', o', none⟩ ∧ ∀ i, i < len3 → w7.cell? ⟨g', o' + i, none⟩ = some (.string (ss i)) := fun hp => by
            obtain ⟨b, off, e, _, hc⟩ := hs7 hp
            exact ⟨b, off, e, hc⟩
          have HS := hide' (same_any (some ⟨W2.heap.size, 0, none⟩) a3 len3 len3 len3 len3 cap3 ss w7 (by omega) (Nat.le_refl _) (Nat.le_refl _) hA hBs)
          clear hA hBs hs7 own8 p7 t7 b7 hs6 own7 hp6 ht6 PB hF6
          go_wp2_with fail
          refine HS.out.mono ?_
          rintro e w8 ⟨rfl, q, rfl⟩
          go_wp2
          go_ret
          exact ⟨rfl, below_dN belZ⟩
        · have hx' : tx.toList.isEmpty = false := isEmpty_false hx
          refine (column_ok2 W4.heap.size g (k + 1) c at' va _ tx po W6 PB hx' w.heap.size len3 (strc ss len3) own7 (by have := bel6.size; omega) h3).mono ?_
          rintro e w7 ⟨rfl, ⟨x0, x3, x4, x7, v7, p7, own8⟩, tw⟩
          have t7 := (tw.block (W4.heap.size + 1) (by omega) (by simp) (own_ne own7 ht6 (by decide))).trans ht6
          have belZ : Below w.heap.size w w7 := twin_below bel6 tw own7 (by have := belW.size; omega)
          have hs7 : Strs w7 a3 len3 ss := hs.below belZ
          obtain ⟨g7, c7, hv7, _, _⟩ := own8.form (by omega)
          subst hv7
          have c2 := (box_cell p7 2).trans rfl
          have c5 := (box_cell p7 5).trans rfl
          have c6 := (box_cell p7 6).trans rfl
          have y0 := (box_cell t7 0).trans rfl
          have y1 := (box_cell t7 1).trans rfl
          have y7 : w7.cell? ⟨g7, len3, none⟩ = some (.string tx) := by
            rw [own8.cellAt len3 (by omega)]
            have hl : (strc ss len3).length = len3 := by simp [strc]
            rw [List.getElem?_append_right (by omega), hl]
            simp
          have hA : 0 < len3 → ∃ g' o', (some (⟨g7, 0, none⟩ : Addr)) = some ⟨g', o', none⟩ ∧ ∀ i, i < len3 → w7.cell? ⟨g', o' + i, none⟩ = some (.string (ss i)) := fun _ => ⟨_, _, rfl, fun i hi => by
            have hl : (strc ss len3).length = len3 := by simp [strc]
            rw [Nat.zero_add, own8.cellAt i (by omega), List.getElem?_append_left (by omega), strc_at ss len3 i hi]⟩
          have hBs : 0 < len3 → ∃ g' o', a3 = some ⟨g', o', none⟩ ∧ ∀ i, i < len3 → w7.cell? ⟨g', o' + i, none⟩ = some (.string (ss i)) := fun hp => by
            obtain ⟨b, off, e, _, hc⟩ := hs7 hp
            exact ⟨b, off, e, hc⟩
          have HS := hide' (fun nq => same_any (some ⟨g7, 0, none⟩) a3 len3 (len3 + 1) c7 len3 cap3 ss (w7.drewN nq) (by omega) (by omega) (Nat.le_refl _) hA hBs)
          have bl : (len3 : Int) < (len3 : Int) + 1 := by omega
          clear hA hBs hs7 own8 p7 t7 tw hs6 own7 hp6 ht6 PB hF6
          have hta := fun wx => type_assert tx wx
          go_wp2
          go_quiet ((go_at_call 6; exact Calls.quiet_of (HS.out _)))
          go_wp2
          go_ret
          exact ⟨rfl, below_dN belZ⟩
      · have hq' : (kd.toList == [113, 117, 111, 116, 101, 100, 32, 110, 97, 109, 101]) = false := toList_false hq
        refine (column_ok W4.heap.size g (k + 1) c at' va _ kd tx po W6 PB hq' w.heap.size len3 (strc ss len3) own7 (by have := bel6.size; omega) h3).mono ?_
        rintro e w7 ⟨rfl, ⟨x0, x3, x4, x7, v7, p7, own8⟩, tw⟩
        have t7 := (tw.block (W4.heap.size + 1) (by omega) (by simp) (own_ne own7 ht6 (by decide))).trans ht6
        have belZ : Below w.heap.size w w7 := twin_below bel6 tw own7 (by have := belW.size; omega)
        have hs7 : Strs w7 a3 len3 ss := hs.below belZ
        obtain ⟨g7, c7, hv7, _, _⟩ := own8.form (by omega)
        subst hv7
        have c2 := (box_cell p7 2).trans rfl
        have c5 := (box_cell p7 5).trans rfl
        have c6 := (box_cell p7 6).trans rfl
        have y0 := (box_cell t7 0).trans rfl
        have y1 := (box_cell t7 1).trans rfl
        have y7 : w7.cell? ⟨g7, len3, none⟩ = some (.string tx) := by
          rw [own8.cellAt len3 (by omega)]
          have hl : (strc ss len3).length = len3 := by simp [strc]
          rw [List.getElem?_append_right (by omega), hl]
          simp
        have hA : 0 < len3 → ∃ g' o', (some (⟨g7, 0, none⟩ : Addr)) = some ⟨g', o', none⟩ ∧ ∀ i, i < len3 → w7.cell? ⟨g', o' + i, none⟩ = some (.string (ss i)) := fun _ => ⟨_, _, rfl, fun i hi => by
          have hl : (strc ss len3).length = len3 := by simp [strc]
          rw [Nat.zero_add, own8.cellAt i (by omega), List.getElem?_append_left (by omega), strc_at ss len3 i hi]⟩
        have hBs : 0 < len3 → ∃ g' o', a3 = some ⟨g', o', none⟩ ∧ ∀ i, i < len3 → w7.cell? ⟨g', o' + i, none⟩ = some (.string (ss i)) := fun hp => by
          obtain ⟨b, off, e, _, hc⟩ := hs7 hp
          exact ⟨b, off, e, hc⟩
        have HS := hide' (fun nq => same_any (some ⟨g7, 0, none⟩) a3 len3 (len3 + 1) c7 len3 cap3 ss (w7.drewN nq) (by omega) (by omega) (Nat.le_refl _) hA hBs)
        have bl : (len3 : Int) < (len3 : Int) + 1 := by omega
        clear hA hBs hs7 own8 p7 t7 tw hs6 own7 hp6 ht6 PB hF6
        have hta := fun wx => type_assert tx wx
        go_wp2
        go_quiet ((go_at_call 6; exact Calls.quiet_of (HS.out _)))
        go_wp2
        go_ret
        exact ⟨rfl, below_dN belZ⟩
end Go.Proofs.YbulkdtkFmt
