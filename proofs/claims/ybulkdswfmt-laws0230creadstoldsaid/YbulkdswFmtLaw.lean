/-
  Seat b0230aF: the law's walk (5).
-/
import Derived.Test.YbulkdswFmtOut
import Derived.Test.YbulkdswFmtEqual
import Derived.Deep.CutRange
import Derived.Lib.SliceRun
namespace Go.Proofs.YbulkdswFmt
open Go.Extern.Stop Go.Stop Go.Extern Go.RowKit

theorem wrap32_in (x : Int) : -2147483648 ≤ wrap32 x ∧ wrap32 x < 2147483648 := by unfold wrap32; omega

theorem make_row (w : World) (m : Nat) (hm : m ≤ 1024) : ∃ w', (Instr.makeSlice 22 (.int .i64 0) (.int .i64 (16 + (m : Int)))).run Ybaf.prog w = .ok (.slice (some ⟨w.heap.size, 0, none⟩) 0 (16 + m)) w' ∧
    w'.ownsRow w.heap.size 5 1 (.slice (some ⟨w.heap.size, 0, none⟩) 0 (16 + m)) 0 [] ∧ Kept [] w w' := by
  obtain ⟨i0, hi, hz0, hz1, hz2⟩ := info_parts info5
  obtain ⟨w', h1, h2, h3⟩ := run_make_own (P := Ybaf.prog) w w.heap.size 22 5 i0 (.int .u8 0) 1 Ybaf.underlying22 hi hz0 hz1 .i64 .i64 (16 + m) (by rw [hz2]; omega) (by simp [maxLen]; omega) (Nat.le_refl _)
  exact ⟨w', h1, h2, h3.os, h3.tape, h3.output, h3.size, fun i hi hn => h3.block i hi (by simp)⟩

theorem append32_int (B sb cap n n' : Nat) (i : Int) (xs : List Value) (w : World) (hn : n + 4 = n') (hown : w.ownsRow B 5 1 (.slice (some ⟨sb, 0, none⟩) n cap) n xs) (hroom : n + 4 ≤ cap) :
    Calls Ybaf.prog 12 #[.agg #[], .slice (some ⟨sb, 0, none⟩) n cap, .int .u32 (i % 4294967296)] w fun e w' => e = .returned (.slice (some ⟨sb, 0, none⟩) n' cap) ∧ w'.ownsRow B 5 1 (.slice (some ⟨sb, 0, none⟩) n' cap) n' (xs ++ le4 (i % 4294967296).toNat) ∧ Kept [sb] w w' := by
  subst hn
  have e : ((i % 4294967296).toNat : Int) = i % 4294967296 := Int.toNat_of_nonneg (by omega)
  have h := append32_any B n (i % 4294967296).toNat sb cap (by omega) xs w hown hroom
  rw [e] at h
  exact h

theorem cut_d (cut : Int) (m : Nat) : ∃ d : Int, (wrap64 (IntKind.u16.wrap (cut.tdiv 2))).tmod (16 + (m : Int) + 1) = d ∧ 0 ≤ d ∧ d ≤ 16 + m := by
  have h : ∃ z : Int, IntKind.u16.wrap (cut.tdiv 2) = z ∧ 0 ≤ z ∧ z < 65536 := ⟨_, rfl, by simp [IntKind.wrap, IntKind.bits, IntKind.signed]; omega, by simp [IntKind.wrap, IntKind.bits, IntKind.signed]; omega⟩
  obtain ⟨z, hz, h0, h1⟩ := h
  rw [hz]
  have hw : wrap64 z = z := by unfold wrap64; omega
  rw [hw]
  have := Int.tmod_nonneg (16 + (m : Int) + 1) h0
  have := Int.tmod_lt_of_pos z (show (0 : Int) < 16 + (m : Int) + 1 by omega)
  exact ⟨_, rfl, by omega, by omega⟩

theorem wrap_back (i : Int) (h1 : -2147483648 ≤ i) (h2 : i < 2147483648) : IntKind.i32.wrap (((i % 4294967296).toNat : Nat) : Int) = i := by
  have e : ((i % 4294967296).toNat : Int) = i % 4294967296 := Int.toNat_of_nonneg (by omega)
  rw [e]
  simp [IntKind.wrap, IntKind.bits, IntKind.signed]
  omega

theorem head16_one (a b c d : Nat) : ∀ u ∈ head16 a b c d, u.oneCell' = true := by
  intro u hu
  simp [head16, le4] at hu
  rcases hu with rfl | rfl | rfl | rfl | rfl | rfl | rfl | rfl | rfl | rfl | rfl | rfl | rfl | rfl | rfl | rfl <;> rfl

theorem law_resp (F : Interp) (n m : Nat) (L i1 i2 i3 q o : Int) (ea ua : Addr) (zs : List Int) (cs : List Value) (w w6 : World) (hF : F.answers w.tape)
    (hev : w.cell? ⟨1, 0, none⟩ = some (err71 ea)) (huv : w.cell? ⟨2, 0, none⟩ = some (err71 ua)) (hsz : 2 < w.heap.size)
    (hL1 : -2147483648 ≤ L) (hL2 : L < 2147483648) (h11 : -2147483648 ≤ i1) (h12 : i1 < 2147483648) (h21 : -2147483648 ≤ i2) (h22 : i2 < 2147483648) (h31 : -2147483648 ≤ i3) (h32 : i3 < 2147483648)
    (hm : m ≤ 1024) (hn : n ≤ 16 + m) (hlen : cs.length = 16 + m)
    (hcs : cs = head16 (L % 4294967296).toNat (i1 % 4294967296).toNat (i2 % 4294967296).toNat (i3 % 4294967296).toNat ++ zs.map (Value.int .u8))
    (hrow : w6.heap[w.heap.size]? = some (.cells cs.toArray 5 (0, 0))) (hk : Kept [] w w6) :
    Calls Ybaf.prog 13 #[.iface 41 (.pointer (some ⟨w6.heap.size, 0, none⟩)), .int .i32 q, .int .i32 o] (w6.alloc (.cells #[.slice (some ⟨w.heap.size, 0, none⟩) n (16 + m), .int .i64 0] 43)) fun e w' =>
      ∃ (hdr got er : Value) (k : Nat), e = .returned (.tuple #[hdr, got, er]) ∧ w'.heap[w6.heap.size]? = some (.cells #[.slice (some ⟨w.heap.size, 0, none⟩) n (16 + m), .int .i64 (k : Int)] 43 (0, 0)) ∧
        w'.heap[w.heap.size]? = some (.cells cs.toArray 5 (0, 0)) ∧ Kept [] w w' ∧ Ans n L i1 i2 i3 q o ea ua cs hdr got er k w' := by
  have hlt := lt_box hrow
  have hk2 : Kept [] w (w6.alloc (.cells #[.slice (some ⟨w.heap.size, 0, none⟩) n (16 + m), .int .i64 0] 43)) := hk.alloc _
  have hrow2 : (w6.alloc (.cells #[.slice (some ⟨w.heap.size, 0, none⟩) n (16 + m), .int .i64 0] 43)).heap[w.heap.size]? = some (.cells cs.toArray 5 (0, 0)) := (Below.heap_alloc _ _ _ hlt).trans hrow
  refine (resp_any F w6.heap.size w.heap.size n (16 + m) (L % 4294967296).toNat (i1 % 4294967296).toNat (i2 % 4294967296).toNat (i3 % 4294967296).toNat L i1 i2 i3 q o ea ua cs _ (heap_alloc_new _ _) hn (by omega) hrow2 ?_ hlen ?_ (by omega) (by omega) (by omega) (by omega)
    (wrap_back L hL1 hL2) (wrap_back i1 h11 h12) (wrap_back i2 h21 h22) (wrap_back i3 h31 h32) (by show F.answers w6.tape; rw [hk.tape]; exact hF)
    ((hk2.cell (p := ⟨1, 0, none⟩) (by show 1 < w.heap.size; omega) (by simp)).trans hev) ((hk2.cell (p := ⟨2, 0, none⟩) (by show 2 < w.heap.size; omega) (by simp)).trans huv) (by have := hk.size; omega) (by omega)).mono ?_
  · rw [hcs]
    intro u hu
    rcases List.mem_append.1 hu with h | h
    · exact head16_one _ _ _ _ u h
    · obtain ⟨z, _, rfl⟩ := List.mem_map.1 h
      rfl
  · rw [hcs]
    exact List.take_left' rfl
  · rintro e w' ⟨hdr, got, er, k, rfl, hb, hk3, ha⟩
    refine ⟨hdr, got, er, k, rfl, hb, (hk3.block _ (by simp; omega) (by simp; omega)).trans hrow2, hk2.then hk3 ?_, ha⟩
    intro t ht htl
    have := hk.size
    simp at ht
    omega

theorem eq_nil (W : World) : (binOp .eql 22 (.slice none 0 0) (.slice none 0 0)).run Ybaf.prog W = .ok (.bool true) W := Lib.run_eql_slice_nil W 22 5 none 0 0 0 0 Ybaf.underlying22

theorem two_more (w : World) (a b : Obj) : ∃ W, W = (w.alloc a).alloc b ∧ Kept [] w W := ⟨_, rfl, ((Kept.refl _ _).alloc _).alloc _⟩

theorem equal_same (g sb N m c d off : Nat) (ho : off = 16 ∨ N = 0) (v0 v1 v2 v3 : Nat) (zs : List Int) (cur cs : List Value) (w : World) (hzl : zs.length = m) (hN : N ≤ m)
    (hg : w.heap[g]? = some (.cells cur.toArray 5 (0, 0))) (hs : w.heap[sb]? = some (.cells cs.toArray 5 (0, 0))) (ht : cur.take N = (cs.drop 16).take N) (hcs : cs = head16 v0 v1 v2 v3 ++ zs.map (Value.int .u8)) :
    Calls Ybaf.prog 14 #[.slice (some ⟨g, 0, none⟩) N c, .slice (some ⟨sb, off, none⟩) N d] w fun e w' => e = .returned (.bool true) ∧ w' = w := by
  rcases ho with rfl | rfl
  rotate_left
  · exact equal_any g sb off 0 c d [] w rfl (by omega) (by omega)
  have h16 : (head16 v0 v1 v2 v3).length = 16 := rfl
  refine equal_any g sb 16 N c d (zs.take N) w (by simp; omega) ?_ ?_
  · intro j hj
    rw [box_cell hg]
    have e : cur.toArray[0 + j]? = (cur.take N)[j]? := by simp [hj]
    rw [e, ht, hcs, List.drop_left' h16]
    simp [hj, List.getElem?_eq_getElem (show j < zs.length by omega)]
  · intro j hj
    rw [box_cell hs, hcs]
    have e : (head16 v0 v1 v2 v3 ++ zs.map (Value.int .u8)).toArray[16 + j]? = (zs.map (Value.int .u8))[j]? := by
      rw [List.getElem?_toArray, List.getElem?_append_right (by omega)]
      congr 1
      omega
    rw [e]
    simp [hj, List.getElem?_eq_getElem (show j < zs.length by omega)]

set_option maxRecDepth 100000 in
set_option maxHeartbeats 4000000 in
theorem law_any (F : Interp) (raw mode i1 i2 i3 q o cut : Int) (sr so : Bool) (ea ua : Addr) (ao : Option Addr) (m c0 : Nat) (zs : List Int) (w : World) (hF : F.answers w.tape)
    (hev : w.cell? ⟨1, 0, none⟩ = some (err71 ea)) (huv : w.cell? ⟨2, 0, none⟩ = some (err71 ua)) (hsz : 2 < w.heap.size)
    (hr1 : -2147483648 ≤ raw) (hr2 : raw < 2147483648) (h11 : -2147483648 ≤ i1) (h12 : i1 < 2147483648) (h21 : -2147483648 ≤ i2) (h22 : i2 < 2147483648) (h31 : -2147483648 ≤ i3) (h32 : i3 < 2147483648)
    (hm0 : 0 ≤ mode) (hm1 : mode < 256) (hc0 : 0 ≤ cut) (hc1 : cut < 65536)
    (hzl : zs.length = m) (hnone : ao = none → m = 0 ∧ c0 = 0) (hcell : ∀ ad, ao = some ad → ∀ (j : Nat) (u : Value), (zs.map (Value.int .u8))[j]? = some u → w.cell? (ad.add j) = some u) :
    Calls Ybaf.prog 5 #[.int .i32 raw, .int .u8 mode, .int .i32 i1, .int .i32 i2, .int .i32 i3, .int .i32 q, .int .i32 o, .bool sr, .bool so, .slice ao m c0, .int .u16 cut] w fun e w' => e = .returned (.bool true) ∧ Kept [] w w' := by
  by_cases hm : (1024 : Int) < (m : Int)
  · go_enter Ybaf.func5, Ybaf.ntmps5
    go_wp2_with fail
    go_ret
    exact ⟨rfl, Kept.refl _ _⟩
  have hm' : m ≤ 1024 := by omega
  have HC := hide' hcell
  have HN := hide' hnone
  have HF := hide' hF
  have HE := hide' hev
  have HU := hide' huv
  clear hcell hnone hF hev huv
  go_enter Ybaf.func5, Ybaf.ntmps5
  go_upto_if 39 with fail
  go_cut [23] from 34 to 48 (fun s23 wx => ∃ L : Int, s23 = .int .i32 L ∧ -2147483648 ≤ L ∧ L < 2147483648 ∧ wx = w)
  case first =>
    go_wp2_with fail
    · go_meet
      case rel => exact ⟨_, rfl, hr1, hr2, rfl⟩
    · go_meet
      case rel => exact ⟨_, rfl, (wrap32_in _).1, (wrap32_in _).2, rfl⟩
  case rest =>
    obtain ⟨L, rfl, hL1, hL2, e⟩ := hcut
    replace e := e.symm
    subst e
    go_upto_if 49 with fail
    go_cut [5] from 49 to 50 (fun s5 wx => ∃ q' : Int, s5 = .int .i32 q' ∧ wx = w)
    case first =>
      cases sr
      all_goals
        go_wp2_with fail
        go_meet
        exact ⟨_, rfl, rfl⟩
    case rest =>
    obtain ⟨q', rfl, e⟩ := hcut
    replace e := e.symm
    subst e
    go_upto_if 51 with fail
    go_cut [6] from 51 to 52 (fun s6 wx => ∃ o' : Int, s6 = .int .i32 o' ∧ wx = w)
    case first =>
      cases so
      all_goals
        go_wp2_with fail
        go_meet
        exact ⟨_, rfl, rfl⟩
    case rest =>
    obtain ⟨o', rfl, e⟩ := hcut
    replace e := e.symm
    subst e
    obtain ⟨w1, hmk, own1, hg1⟩ := make_row w m hm'
    have O1 := hide' own1
    have K1 := hide' hg1
    clear own1 hg1
    go_wp2_with fail
    refine Calls.mono (append32_int w.heap.size w.heap.size (16 + m) 0 4 L [] w1 rfl O1.out (by omega)) ?_
    rintro e w2 ⟨rfl, own, k2⟩
    have O2 := hide' own
    have K2 := hide' (K1.out.then k2 (by simp))
    clear O1 K1 k2 own hmk
    go_wp2_with fail
    refine Calls.mono (append32_int w.heap.size w.heap.size (16 + m) 4 8 i1 _ w2 rfl O2.out (by omega)) ?_
    rintro e w3 ⟨rfl, own, k2⟩
    have O3 := hide' own
    have K3 := hide' (K2.out.then k2 (by simp))
    clear O2 K2 k2 own
    go_wp2_with fail
    refine Calls.mono (append32_int w.heap.size w.heap.size (16 + m) 8 12 i2 _ w3 rfl O3.out (by omega)) ?_
    rintro e w4 ⟨rfl, own, k2⟩
    have O4 := hide' own
    have K4 := hide' (K3.out.then k2 (by simp))
    clear O3 K3 k2 own
    go_wp2_with fail
    refine Calls.mono (append32_int w.heap.size w.heap.size (16 + m) 12 16 i3 _ w4 rfl O4.out (by omega)) ?_
    rintro e w5 ⟨rfl, own, k2⟩
    have O5 := hide' own
    have K5 := hide' (K4.out.then k2 (by simp))
    clear O4 K4 k2 own
    obtain ⟨ii, hi, hz0, hz1, hz2⟩ := info_parts info5
    go_wp2_with (at_builtin; refine wpList_append_fits_any _ rfl _ _ 22 rfl w.heap.size 5 ii 1 Ybaf.underlying22 hi hz1 w.heap.size 16 (16 + m) _ rfl O5.out ao m c0 (zs.map (Value.int .u8)) rfl ?c1 HN.out ?c2 ?c3 ?c4 ?_)
    case c1 => simp [hzl]
    case c2 =>
      intro ad had j u hu
      have hh := HC.out ad had j u hu
      exact (K5.out.cell (World.block_lt_of_cell? w _ hh) (by simp)).trans hh
    case c3 =>
      intro u hu
      obtain ⟨z, _, rfl⟩ := List.mem_map.1 hu
      rfl
    case c4 => omega
    intro w6 own6 hg6
    obtain ⟨cs, hrow, hlen, htk, _, _, _⟩ := row_block own6
    have hcs : cs = head16 (L % 4294967296).toNat (i1 % 4294967296).toNat (i2 % 4294967296).toNat (i3 % 4294967296).toNat ++ zs.map (Value.int .u8) := by
      rw [List.take_of_length_le (by omega)] at htk
      rw [htk]
      simp [head16]
    have R6 := hide' hrow
    have T6 := hide' hcs
    clear hcs
    have K6 := hide' (K5.out.then (Kept.of_grown hg6) (by simp))
    clear own6 hg6 O5 K5 hrow htk hi hz0 hz1 hz2
    go_upto_if 82 with fail
    go_cut [24] from 80 to 95 (fun s24 wx => ∃ n : Nat, s24 = .slice (some ⟨w.heap.size, 0, none⟩) n (16 + m) ∧ n ≤ 16 + m ∧ wx = w6)
    case first =>
      obtain ⟨d, hd, hd0, hd1⟩ := cut_d cut m
      go_wp2_with fail
      all_goals
        go_meet
      case rel => exact ⟨_, rfl, by omega, rfl⟩
      case rel => exact ⟨_, rfl, Nat.le_refl _, rfl⟩
    case rest =>
    obtain ⟨n, rfl, hn, e⟩ := hcut
    replace e := e.symm
    subst e
    go_wp2_with fail
    have HR := hide' (law_resp F n m L i1 i2 i3 q' o' ea ua zs cs w w6 HF.out HE.out HU.out hsz hL1 hL2 h11 h12 h21 h22 h31 h32 hm' hn hlen T6.out R6.out K6.out)
    refine Calls.mono HR.out ?_
    rintro e w7 ⟨hdr, got, er, k, rfl, hbox, hrow, hk, hans⟩
    clear HR
    have B7 := hide' hbox
    have R7 := hide' hrow
    have K7 := hide' hk
    have b0 : w7.cell? ⟨w6.heap.size, 0, none⟩ = some _ := (box_cell hbox 0).trans rfl
    have b1 : w7.cell? ⟨w6.heap.size, 1, none⟩ = some _ := (box_cell hbox 1).trans rfl
    have g1 := (hk.cell (p := ⟨1, 0, none⟩) (by show 1 < w.heap.size; omega) (by simp)).trans HE.out
    have g2 := (hk.cell (p := ⟨2, 0, none⟩) (by show 2 < w.heap.size; omega) (by simp)).trans HU.out
    have hs67 := lt_box hbox
    have hs7 : 2 < w7.heap.size := Nat.lt_of_lt_of_le hsz hk.size
    have hs71 : 1 < w7.heap.size := by omega
    clear hbox hrow hk R6 K6
    have qn := fun W => eq_nil W
    rcases hans with ⟨rfl, rfl, rfl, rfl, rfl⟩ | ⟨h0, h16, rfl, rfl, rfl, rfl⟩ | ⟨h16, hbad, rfl, rfl, ⟨a, rfl⟩, rfl⟩ | ⟨h16, hl1, hl2, rfl, rfl, hsh, rfl, rfl, rfl, rfl⟩ | ⟨h16, hl1, hl2, rfl, rfl, hsh, g, cap, N, cur, hN, rfl, rfl, rfl, rfl, hg, ht, hcap, hcl⟩
    · go_wp2_with fail
      go_ret
      exact ⟨rfl, K7.out.alloc _⟩
    · have n0 : ¬ (k : Int) = 0 := by omega
      have n16 : (k : Int) < 16 := by omega
      go_wp2_with fail
      go_ret
      exact ⟨rfl, K7.out.alloc _⟩
    · have n16 : ¬ (n : Int) < 16 := by omega
      rcases hbad with hb | hb | ⟨hb1, hb2, hb⟩ | ⟨hb1, hb2, hb3, hb⟩
      · go_wp2_with fail
        go_ret
        exact ⟨rfl, (K7.out.alloc _).alloc _⟩
      · have hb' : ¬ L < 16 := by omega
        go_wp2_with fail
        go_ret
        exact ⟨rfl, (K7.out.alloc _).alloc _⟩
      · have hb' : ¬ L < 16 := by omega
        have hb'' : ¬ 48000000 < L := by omega
        go_wp2_with fail
        go_ret
        exact ⟨rfl, (K7.out.alloc _).alloc _⟩
      · have hb' : ¬ L < 16 := by omega
        have hb'' : ¬ 48000000 < L := by omega
        subst hb3
        go_wp2_with fail
        go_ret
        exact ⟨rfl, (K7.out.alloc _).alloc _⟩
    · have n16 : ¬ (k : Int) < 16 := by omega
      have hb' : ¬ L < 16 := by omega
      have hb'' : ¬ 48000000 < L := by omega
      have hs' : (k : Int) - 16 < L - 16 := by omega
      go_wp2_with fail
      go_ret
      exact ⟨rfl, (K7.out.alloc _).alloc _⟩
    · have n16 : ¬ (n : Int) < 16 := by omega
      have hb' : ¬ L < 16 := by omega
      have hb'' : ¬ 48000000 < L := by omega
      have hLN : L - 16 = (N : Int) := by omega
      have hs' : ¬ (n : Int) - 16 < (N : Int) := by omega
      have hNm : 16 + N ≤ 16 + m := by omega
      have HG := hide' hg
      have HT := hide' ht
      have HCL := hide' hcl
      have HCA := hide' hcap
      clear hg ht hN hsh hl1 hl2 hcap hcl
      go_upto_region 43 with fail
      obtain ⟨W9, eW9, k9⟩ := two_more w7 (Obj.cells #[.int .i32 L, .int .i32 i1, .int .i32 i2, .int .i32 i3] 45) (Obj.cells #[.int .i32 L, .int .i32 i1, .int .i32 i2, .int .i32 i3] 45)
      rw [← eW9]
      clear eW9
      have HQ := hide' (fun d off ho => equal_same g w.heap.size N m cap d off ho _ _ _ _ zs cur cs W9 hzl (by omega) ((k9.block g (lt_box HG.out) (by simp)).trans HG.out) ((k9.block w.heap.size (lt_box R7.out) (by simp)).trans R7.out) HT.out T6.out)
      have K9 := hide' (K7.out.then k9 (by simp))
      have b19 := (k9.cell (p := ⟨w6.heap.size, 1, none⟩) hs67 (by simp)).trans b1
      have hs69 : w6.heap.size < W9.heap.size := Nat.lt_of_lt_of_le hs67 k9.size
      clear b0 b1 g1 g2 k9 B7 R7 T6 HG HT K7 hs67
      go_wp2_with fail
      all_goals
        refine Calls.mono (HQ.out _ _ (by omega)) ?_
        rintro e w' ⟨rfl, rfl⟩
        clear HQ
        go_wp2_with fail
        go_ret
        exact ⟨rfl, K9.out⟩
end Go.Proofs.YbulkdswFmt
