/-
  Seat b0230a: the law's walk (3).
-/
import Derived.Test.YbulkdswPlain
import Derived.Deep.RegionHeldLaw
import Derived.LaidEql
namespace Go.Proofs.Ybulkdsw
open Go.RowKit Go.Shelf Go.Lib Go.Sort

theorem info43' : (Yba.prog.info? 43).map (fun i => (i.zero, i.size, i.bytes)) = some (some (.agg zero43), 26, 296) := by kernel_rfl
theorem make_list (w : World) : ∃ w', (Instr.makeSlice 24 (.int .i64 0) (.int .i64 5)).run Yba.prog w = .ok (.slice (some ⟨w.heap.size, 0, none⟩) 0 5) w' ∧ LS w w' w.heap.size [] := by
  obtain ⟨i0, hi, hz0, hz1, hz2⟩ := info_parts info43'
  obtain ⟨w', h1, h2, h3⟩ := run_make_own (P := Yba.prog) w w.heap.size 24 43 i0 (.agg zero43) 26 Yba.underlying24 hi hz0 hz1 .i64 .i64 5 (by rw [hz2]; omega) (by simp [maxLen]) (Nat.le_refl _)
  exact ⟨w', h1, h2, ⟨h3.os, h3.tape, h3.output, h3.size, fun i hi hn => h3.block i hi (by simp)⟩, by simp, by simp, by simp⟩

theorem addr5 (k : Nat) (hk : k < 256) (w : World) : Calls Yba.prog 4 #[.int .u8 k, .int .i64 5] w fun e w' => (∃ f : Fin 6, f.val < 5 ∧ e = .returned (.string (addrS f))) ∧ w' = w := by
  refine (addr_any k 5 hk (.inl rfl) w).mono ?_
  rintro e w' ⟨⟨f, hf, he⟩, hw⟩
  exact ⟨⟨f, by omega, he⟩, hw⟩
theorem addr6 (k : Nat) (hk : k < 256) (w : World) : Calls Yba.prog 4 #[.int .u8 k, .int .i64 6] w fun e w' => (∃ f : Fin 6, e = .returned (.string (addrS f))) ∧ w' = w := by
  refine (addr_any k 6 hk (.inr rfl) w).mono ?_
  rintro e w' ⟨⟨f, hf, he⟩, hw⟩
  exact ⟨⟨f, he⟩, hw⟩
/-- one block more -/
theorem one_more (w : World) (C : Array Value) (t : TypeId) : ∃ W, W = w.alloc (.cells C t) ∧ W.heap[w.heap.size]? = some (.cells C t (0, 0)) ∧ Kept [] w W := ⟨_, rfl, heap_alloc_new _ _, (Kept.refl _ _).alloc _⟩
theorem addr_eq (a b : Fin 6) : ((addrS a).toList == (addrS b).toList) = decide (a = b) := by
  rw [ByteArray.toList_eq, ByteArray.toList_eq]
  revert a b
  decide

def Takes (d : Array E) (tvs : Nat → Option (Int × Int)) (x2 : Option (Int × Int)) (ty : Int) (y : Fin 6) (i : Nat) : Prop := i < d.size ∧ d[i]!.1 = y ∧ ty ≠ 5 ∧ ¬ 0 < tvCmp (tvs i) x2
theorem TKOut.form {d : Array E} {tvs : Nat → Option (Int × Int)} {x2 : Option (Int × Int)} {ty : Int} {y : Fin 6} {t2 : Option Addr} {g : Int} {cl : Bool} {e : Ending} (h : TKOut d tvs x2 ty y t2 g cl e) :
    ∃ i : Nat, Found d y i ∧ ∃ (tk : Bool) (g' : Int), e = .returned (.tuple #[.agg (srv y t2 g'), .int .i64 i, .bool tk]) ∧
      ((tk = false ∧ ¬ Takes d tvs x2 ty y i ∧ g' = g) ∨ (tk = true ∧ Takes d tvs x2 ty y i ∧ g' = if cl then IntKind.u64.wrap (d[i]!.2.2 + 1) else d[i]!.2.2)) := by
  obtain ⟨i, hf, h | h⟩ := h
  · exact ⟨i, hf, false, g, h.2, .inl ⟨rfl, h.1, rfl⟩⟩
  · exact ⟨i, hf, true, _, h.2, .inr ⟨rfl, h.1, rfl⟩⟩

theorem addr_less (a b : Fin 6) : Op.bytesLess (addrS a).toList (addrS b).toList = decide (a < b) := by
  rw [ByteArray.toList_eq, ByteArray.toList_eq]
  revert a b
  decide
theorem want_step {d : Array E} {y : Fin 6} {i0 j : Nat} (h : ¬ d[j]!.1 = y) : wantAt d y i0 j = wantAt d y i0 (j + 1) := by
  unfold wantAt
  by_cases h1 : i0 < j
  · simp [h1, show i0 < j + 1 by omega]
  · by_cases h2 : i0 = j
    · subst h2
      simp [h]
    · simp [h1, show ¬ i0 < j + 1 by omega]

theorem ptr_in (t : Option Addr) (dd : Nat) (W : World) : (Op.equalIn (dd + 1) 34 (.pointer t) (.pointer t)).run Yba.prog W = .ok true W := by
  cases t <;> simp [Op.equalIn, run_underlying Yba.underlying34, run_sameAddr_same]
theorem ptr_neq (t : Option Addr) (W : World) : (binOp .neq 34 (.pointer t) (.pointer t)).run Yba.prog W = .ok (.bool false) W := by
  simp only [binOp]
  simp [Op.equal, Op.maxDepth, ptr_in t 9999 W]

set_option maxRecDepth 100000 in
set_option maxHeartbeats 8000000 in
theorem law_any (ao : Option Addr) (m c0 : Nat) (typ q pr : Nat) (has cl : Bool) (cnt gen : Int) (w : World) (hs : Srvs w ao m) (ht : typ < 256) (hq : q < 256) (hp : pr < 256) :
    Calls Yba.prog 3 #[.slice ao m c0, .int .u8 typ, .int .u8 q, .bool has, .int .u8 pr, .int .i64 cnt, .int .u64 gen, .bool cl] w fun e w' => e = .returned (.bool true) ∧ Kept [] w w' := by
  by_cases hm : (1024 : Int) < (m : Int)
  · go_enter Yba.func3, Yba.ntmps3
    go_wp2_with fail
    go_ret
    exact ⟨rfl, Kept.refl _ _⟩
  have hm' : m ≤ 1024 := by omega
  have HS := hide' hs
  clear hs
  obtain ⟨w1, hmk, ls1⟩ := make_list w
  have L1 := hide' ls1
  clear ls1
  go_enter Yba.func3, Yba.ntmps3
  go_wp2_with fail
  clear hmk
  go_loopw [17, 48] (fun lv iv wr => ∃ (i : Nat) (L : List E), i ≤ m ∧ iv = .int .i64 i ∧ lv = .slice (some ⟨w.heap.size, 0, none⟩) L.length 5 ∧ Hid (LS w wr w.heap.size L)) (fun _ iv _ => m - (intOf iv).toNat)
  case atStart => exact ⟨0, [], Nat.zero_le _, rfl, rfl, L1⟩
  case round =>
    clear L1
    obtain ⟨i, L, hi, rfl, rfl, HL⟩ := hrel
    by_cases hlt : i < m
    · have hltz : (i : Int) < (m : Int) := by omega
      obtain ⟨b, off, rfl, hb, hc⟩ := HS.out (by omega)
      obtain ⟨k, h, p, c, g, hk, hp, z0, z1, z2, z3, z4⟩ := hc i hlt
      have kp := HL.out.kept
      rw [← kp.cell hb (by simp)] at z0 z1 z2 z3 z4
      have hb2 : b < wr.heap.size := Nat.lt_of_lt_of_le hb kp.size
      clear hc kp
      go_upto_region 7 with fail
      obtain ⟨W1, eW1, hz, kz⟩ := one_more wr #[.int .u8 k, .bool h, .int .u8 p, .int .i64 c, .int .u64 g] 26
      rw [← eW1]
      obtain ⟨zb, hzb⟩ : ∃ zb, wr.heap.size = zb := ⟨_, rfl⟩
      rw [hzb] at hz ⊢
      have HZ := hide' hz
      have LW := hide' (HL.out.then kz)
      have y0 := (box_cell hz 0).trans rfl
      clear eW1 hz kz hzb z0 z1 z2 z3 z4 hb2 HL
      have lz := lt_box HZ.out
      go_wp2_with (go_at_call 4; refine (addr5 k hk _).mono ?_; rintro e W2 ⟨⟨f, hf, rfl⟩, rfl⟩)
      have hL5 := LW.out.len
      clear y0 lz
      go_loopw [21, 57] (fun dv jv wx => ∃ j : Nat, j ≤ L.length ∧ dv = .bool false ∧ jv = .int .i64 j ∧ Hid (∀ t, t < j → L[t]!.1 ≠ f) ∧ Hid (LS w wx w.heap.size L) ∧ Hid (wx.heap[zb]? = some (.cells #[.int .u8 k, .bool h, .int .u8 p, .int .i64 c, .int .u64 g] 26 (0, 0)))) (fun _ jv _ => L.length - (intOf jv).toNat)
      case atStart => exact ⟨0, Nat.zero_le _, rfl, rfl, hide' (fun t h => by omega), LW, HZ⟩
      case round =>
        clear LW HZ
        obtain ⟨j, hj, rfl, rfl, HJ, LX, HZ⟩ := hrel
        by_cases hjl : j < L.length
        · have hjz : (j : Int) < (L.length : Int) := by omega
          obtain ⟨x, hx⟩ : ∃ x, L.toArray[j]! = x := ⟨_, rfl⟩
          have lj := LX.out.row.load (show j < L.toArray.size by simpa using hjl) hx
          have HX := hide' hx
          clear hx
          have e0 : (encE x)[0]? = some (.string (addrS x.1)) := rfl
          have hxL : x = L[j]! := by rw [← HX.out]; simp
          have HXL := hide' hxL
          clear hxL
          by_cases hxf : x.1 = f
          · have es : ((addrS x.1).toList == (addrS f).toList) = true := by rw [addr_eq]; simpa using hxf
            go_wp2_with (first | (refine load43 rfl _ rfl _ _ rfl lj ?_) | (refine store43 rfl _ _ rfl _ rfl rfl rfl (encE_size x) (encE_one x) ?_))
            have LY := hide' (LX.out.then ((Kept.refl [] wr).alloc (.cells (encE x).toArray 43)))
            go_roundw
            case rel => exact ⟨i + 1, L, by omega, by go_num, rfl, LY⟩
            case measure => simp [intOf]; omega
          · have es : ((addrS x.1).toList == (addrS f).toList) = false := by rw [addr_eq]; simpa using hxf
            have LY := hide' (LX.out.then ((Kept.refl [] wr).alloc (.cells (encE x).toArray 43)))
            have ZY := hide' ((((Kept.refl [] wr).alloc (.cells (encE x).toArray 43)).block zb (lt_box HZ.out) (by simp)).trans HZ.out)
            have HJ2 := hide' (show ∀ t, t < j + 1 → L[t]!.1 ≠ f from fun t ht => by
              by_cases h : t < j
              · exact HJ.out t h
              · obtain rfl : t = j := by omega
                rw [← HXL.out]
                exact hxf)
            clear LX HZ HJ
            go_wp2_with (first | (refine load43 rfl _ rfl _ _ rfl lj ?_) | (refine store43 rfl _ _ rfl _ rfl rfl rfl (encE_size x) (encE_one x) ?_))
            go_roundw
            case rel => exact ⟨j + 1, by omega, rfl, by go_num, HJ2, LY, ZY⟩
            case measure => simp [intOf]; omega
        · obtain rfl : j = L.length := by omega
          clear hj hjl
          go_upto_region 16 with fail
          have y1 := (box_cell HZ.out 1).trans rfl
          have y2 := (box_cell HZ.out 2).trans rfl
          have y3 := (box_cell HZ.out 3).trans rfl
          have y4 := (box_cell HZ.out 4).trans rfl
          have lz := lt_box HZ.out
          have HT := hide' (tv_any h p c hp)
          have hroom := room LX.out hf HJ.out
          have hzl : zb ∉ [w.heap.size] := by
            obtain ⟨cur, hcu, _⟩ := row_block26 LX.out.own
            intro hh
            simp at hh
            subst hh
            have := HZ.out.symm.trans hcu
            simp at this
          obtain ⟨ii, hi, hz0, hz1, hz2⟩ := info_parts info43'
          go_region_held_law (fun w' => w'.cell? ⟨zb, 1, none⟩ = some (.bool h) ∧ w'.cell? ⟨zb, 2, none⟩ = some (.int .u8 p) ∧ w'.cell? ⟨zb, 3, none⟩ = some (.int .i64 c) ∧ w'.cell? ⟨zb, 4, none⟩ = some (.int .u64 g)) (go_keep)
            (first
              | (refine step_append_fits _ rfl (.tmp 67) (.tmp 79) 24 rfl w.heap.size 43 ii 26 Yba.underlying24 hi hz1 w.heap.size L.length 5 (L.flatMap encE) rfl OW2.out ⟨w2.heap.size, 0, none⟩ 1 1 (encE (f, t, g)) rfl rfl NB2.out (sd_one _ _ _ _) hroom ?_; intro w3 own3 hg3; have kk := ((Kept.refl [w.heap.size] w2).alloc (.cells (encE (f, t, g)).toArray 43)).trans (Kept.of_grown hg3); have q1 := (kk.cell (p := ⟨zb, 1, none⟩) lz2 hzl).trans y1'; have q2 := (kk.cell (p := ⟨zb, 2, none⟩) lz2 hzl).trans y2'; have q3 := (kk.cell (p := ⟨zb, 3, none⟩) lz2 hzl).trans y3'; have q4 := (kk.cell (p := ⟨zb, 4, none⟩) lz2 hzl).trans y4')
              | (go_at_call 5; refine (HT.out _).mono ?_; rintro e w2 ⟨⟨t, rfl, htv, _⟩, k2⟩; have y1' := (k2.cell (p := ⟨zb, 1, none⟩) lz (by simp)).trans y1; have y2' := (k2.cell (p := ⟨zb, 2, none⟩) lz (by simp)).trans y2; have y3' := (k2.cell (p := ⟨zb, 3, none⟩) lz (by simp)).trans y3; have y4' := (k2.cell (p := ⟨zb, 4, none⟩) lz (by simp)).trans y4; have lz2 : zb < w2.heap.size := Nat.lt_of_lt_of_le lz k2.size; have K2 := hide' (((Kept.refl [] wr).drew).then k2 (by simp)); have OW2 := hide' ((LX.out.then K2.out).own.alloc (.cells (encE (f, t, g)).toArray 43)); have NB2 := hide' (World.news_of_block (heap_alloc_new w2 (.cells (encE (f, t, g)).toArray 43)))))
          have LN := hide' (LS.push ((LX.out.then K2.out).then ((Kept.refl [] w2).alloc _)) (Nat.le_refl _) own3 hg3 (htv.kept (Kept.refl _ _) ((Kept.refl [] w2).alloc _)) hf HJ.out)
          clear kk own3 hg3 y1' y2' y3' y4' q1 q2 q3 q4 OW2 NB2 K2 k2 htv LX HJ HZ y1 y2 y3 y4 hi hz0 hz1 hz2
          go_wp2_with fail
          go_roundw
          case rel => exact ⟨i + 1, L ++ [(f, t, g)], by omega, by go_num, by simp, LN⟩
          case measure => simp [intOf]; omega
    · obtain rfl : m = i := by omega
      clear hlt hi
      have HSO := hide' (sort_any w.heap.size 5 L.toArray wr HL.out.row (by obtain ⟨cur, hcu, _⟩ := row_block26 HL.out.own; exact lt_box hcu) (by simpa using HL.out.len))
      have hl5 := HL.out.len
      go_wp2_with fail
      refine Calls.mono HSO.out ?_
      rintro e w2 ⟨rfl, d, hsz, hp2, hso, hr, k2⟩
      obtain ⟨tvs, ds⟩ := HL.out.sorted (Nat.le_refl _) hsz hp2 hso hr k2
      have D2 := hide' ds
      have hdn : L.length = d.size := by rw [hsz]; simp
      rw [hdn]
      clear hdn hsz hp2 hso hr k2 ds HSO HL hl5
      have hd5 := D2.out.n5
      obtain ⟨n, hn⟩ : ∃ n, d.size = n := ⟨_, rfl⟩
      have HN := hide' hn
      rw [hn] at hd5 ⊢
      clear hn
      obtain ⟨w3, hmg, gn, k3⟩ := make_gens w2 n d hd5
      have D3 := hide' (D2.out.then k3)
      have G3 := hide' gn
      obtain ⟨gb, hgb⟩ : ∃ gb, w2.heap.size = gb := ⟨_, rfl⟩
      have hgl : gb ≠ w.heap.size := by
        have := D2.out.lt
        omega
      have K3 := hide' k3
      rw [hgb] at hmg G3
      have HGB := hide' hgb
      clear gn k3
      go_wp2_with fail
      clear hmg hgb
      go_loopw [89] (fun jv wx => ∃ j : Nat, j ≤ n ∧ jv = .int .i64 j ∧ Hid (Kept [] w2 wx) ∧ Hid (Gens wx gb n j d)) (fun jv _ => n - (intOf jv).toNat)
      case atStart => exact ⟨0, Nat.zero_le _, rfl, K3, G3⟩
      case round =>
        clear K3 G3 D3
        obtain ⟨j, hj, rfl, KX, GX⟩ := hrel
        by_cases hjl : j < n
        · have hjz : (j : Int) < (n : Int) := by omega
          obtain ⟨x, hx⟩ : ∃ x, d[j]! = x := ⟨_, rfl⟩
          have DX := D2.out.then KX.out
          have lj := DX.row.load (show j < d.size by rw [HN.out]; exact hjl) hx
          have e25 : (encE x)[25]? = some (.int .u64 x.2.2) := rfl
          obtain ⟨cur, g1, g2, g3⟩ := GX.out
          obtain ⟨uc, gc⟩ : ∃ u, wr.cell? ⟨gb, j, none⟩ = some u := ⟨cur[j], by rw [box_cell g1]; simp⟩
          have gf : wr.frozen? ⟨gb, j, none⟩ = false := free_box g1
          have lg := lt_box g1
          have kx : Kept [] w2 ((wr.setCell ⟨gb, j, none⟩ (.int .u64 x.2.2)).alloc (.cells (encE x).toArray 43)) := (KX.out.setCell _ _ (by rw [← HGB.out]; simp)).alloc _
          have gx := GX.out.set hjl
          rw [hx] at gx
          replace gx := gx.then ((Kept.refl [] _).alloc (.cells (encE x).toArray 43))
          have KX2 := hide' kx
          have GX2 := hide' gx
          clear DX hx g1 g2 g3 KX GX kx gx
          go_wp2_with (first | (refine load43 rfl _ rfl _ _ rfl lj ?_) | (refine store43 rfl _ _ rfl _ rfl rfl rfl (encE_size x) (encE_one x) ?_))
          go_roundw
          case rel => exact ⟨j + 1, by omega, by go_num, KX2, GX2⟩
          case measure => simp [intOf]; omega
        · obtain rfl : n = j := by omega
          clear hjl hj
          have D4 := hide' (D2.out.then KX.out)
          have G4 := hide' GX.out
          clear KX GX D2 HGB
          go_upto_region 26 with fail
          obtain ⟨W5, eW5, ht5, k5⟩ := one_more wr #[.int .i64 ((typ : Int) % 6), .string ⟨#[]⟩, .slice (some ⟨w.heap.size, 0, none⟩) n 5, .nilIface, .pointer none, .pointer none, .pointer none] 51
          rw [← eW5]
          obtain ⟨tb, htb⟩ : ∃ tb, wr.heap.size = tb := ⟨_, rfl⟩
          rw [htb] at ht5 ⊢
          have D5 := hide' (D4.out.then k5)
          have G5 := hide' (G4.out.then k5)
          have T5 := hide' ht5
          clear eW5 ht5 k5 htb D4 G4
          go_wp2_with fail
          refine Calls.mono (tv_any has pr cnt hp W5) ?_
          rintro e w6 ⟨⟨t2, rfl, htv2, _⟩, k6⟩
          have D6 := hide' (D5.out.then k6)
          have G6 := hide' (G5.out.then k6)
          have T6 := hide' ((k6.block tb (lt_box T5.out) (by simp)).trans T5.out)
          have V6 := hide' htv2
          obtain ⟨x2, hx2⟩ : ∃ x2, tvOf has ((pr % 2 : Nat) : Int) cnt = x2 := ⟨_, rfl⟩
          rw [hx2] at V6
          clear D5 G5 T5 k6 htv2 hx2
          go_wp2_with fail
          refine Calls.mono (addr6 q hq w6) ?_
          rintro e w7 ⟨⟨y, rfl⟩, e7⟩
          replace e7 := e7.symm
          subst e7
          go_upto_region 28 with (refine store43 rfl _ _ rfl (srv y t2 gen) rfl rfl rfl rfl (srv_all _ _ _) ?_)
          obtain ⟨W8, eW8, hs8, k8⟩ := one_more w6 (srv y t2 gen) 43
          rw [← eW8]
          obtain ⟨sb, hsb⟩ : ∃ sb, w6.heap.size = sb := ⟨_, rfl⟩
          rw [hsb] at hs8 ⊢
          have D8 := hide' (D6.out.then k8)
          have G8 := hide' (G6.out.then k8)
          have T8 := hide' ((k8.block tb (lt_box T6.out) (by simp)).trans T6.out)
          have V8 := hide' (V6.out.kept (Kept.refl _ _) k8)
          have S8 := hide' hs8
          have ld := row_load hs8 rfl
          have fT := fun i => box_cell T8.out i
          have ltb := lt_box T8.out
          have HTK := take_any ((typ : Int) % 6) w.heap.size 5 d tvs x2 y t2 gen cl W8 D8.out.row D8.out.lt D8.out.strict D8.out.n5 D8.out.tv V8.out
          rw [HN.out] at HTK
          have HTK2 := hide' HTK
          clear eW8 hs8 k8 hsb D6 G6 T6 V6 HTK
          go_wp2_with (refine load43 rfl _ rfl _ _ rfl ld ?_)
          refine Calls.mono HTK2.out ?_
          rintro e w9 ⟨hout, k9⟩
          obtain ⟨i0, hfo, tk, g', rfl, htk⟩ := hout.form
          have D9 := hide' (D8.out.then k9)
          have G9 := hide' (G8.out.then k9)
          have T9 := hide' ((k9.block tb (lt_box T8.out) (by simp)).trans T8.out)
          have V9 := hide' (V8.out.kept (Kept.refl _ _) k9)
          have S9 := hide' ((k9.block sb (lt_box S8.out) (by simp)).trans S8.out)
          have F9 := hide' hfo
          have TK9 := hide' htk
          clear D8 G8 T8 V8 S8 ld fT ltb HTK2 hout hfo htk k9
          go_upto_region 32 with (refine store43 rfl _ _ rfl (srv y t2 g') rfl rfl rfl rfl (srv_all _ _ _) ?_)
          obtain ⟨WA, eWA, hsA, kA⟩ := one_more w9 (srv y t2 g') 43
          rw [← eWA]
          obtain ⟨ob, hob⟩ : ∃ ob, w9.heap.size = ob := ⟨_, rfl⟩
          rw [hob] at hsA ⊢
          have A0 : Hid (AF w WA w.heap.size gb tb sb ob n ((typ : Int) % 6) d tvs y t2 gen g' x2) :=
            ⟨D9.out.then kA, G9.out.then kA, (kA.block tb (lt_box T9.out) (by simp)).trans T9.out, (kA.block sb (lt_box S9.out) (by simp)).trans S9.out, hsA, V9.out.kept (Kept.refl _ _) kA⟩
          clear eWA hsA kA hob D9 G9 T9 S9 V9
          go_loopw [33, 34, 124] (fun wv bv jv wx => ∃ j : Nat, j ≤ n ∧ wv = .int .i64 (wantAt d y i0 j) ∧ bv = .int .i64 (min j i0 : Nat) ∧ jv = .int .i64 j ∧ Hid (AF w wx w.heap.size gb tb sb ob n ((typ : Int) % 6) d tvs y t2 gen g' x2)) (fun _ _ jv _ => n - (intOf jv).toNat)
          case atStart => exact ⟨0, Nat.zero_le _, by simp [wantAt], by simp, rfl, A0⟩
          case round =>
            clear A0
            obtain ⟨j, hj, rfl, rfl, rfl, AX⟩ := hrel
            by_cases hjl : j < n
            · have hjz : (j : Int) < (n : Int) := by omega
              obtain ⟨x, hx⟩ : ∃ x, d[j]! = x := ⟨_, rfl⟩
              have hjd : j < d.size := by rw [HN.out]; exact hjl
              have lj := AX.out.ds.row.load hjd hx
              have e0 : (encE x)[0]? = some (.string (addrS x.1)) := rfl
              have s0 : wr.cell? ⟨sb, 0, none⟩ = some (.string (addrS y)) := (box_cell AX.out.sv 0).trans rfl
              have lsb := lt_box AX.out.sv
              have AY := hide' (AX.out.then ((Kept.refl [] wr).alloc (.cells (encE x).toArray 43)))
              have HX := hide' hx
              have hjd' := hide' hjd
              clear hx hjd
              by_cases hxy : x.1 = y
              · have es : ((addrS x.1).toList == (addrS y).toList) = true := by rw [addr_eq]; simpa using hxy
                have el : Op.bytesLess (addrS x.1).toList (addrS y).toList = false := by rw [addr_less]; simp [hxy]
                have HJI := hide' (at_eq F9.out AX.out.ds.strict hjd'.out (by rw [HX.out]; exact hxy))
                have HXY := hide' hxy
                clear hxy AX
                go_wp2_with (first | (refine load43 rfl _ rfl _ _ rfl lj ?_) | (refine store43 rfl _ _ rfl _ rfl rfl rfl (encE_size x) (encE_one x) ?_))
                go_roundw
                case rel =>
                  refine ⟨j + 1, by omega, ?_, ?_, by go_num, AY⟩
                  · have h1 := HJI.out
                    have h2 : d[i0]!.1 = y := by rw [← h1, HX.out]; exact HXY.out
                    unfold wantAt
                    rw [if_pos ⟨by omega, h2⟩, h1]
                  · have h1 := HJI.out
                    rw [show min j i0 = i0 by omega, show min (j + 1) i0 = i0 by omega]
                case measure => simp [intOf]; omega
              · have es : ((addrS x.1).toList == (addrS y).toList) = false := by rw [addr_eq]; simpa using hxy
                have HWS := hide' (want_step (d := d) (y := y) (i0 := i0) (j := j) (by rw [HX.out]; exact hxy))
                by_cases hlt : x.1 < y
                · have el : Op.bytesLess (addrS x.1).toList (addrS y).toList = true := by rw [addr_less]; simpa using hlt
                  have HJI := hide' (at_lt F9.out hjd'.out (by rw [HX.out]; exact hlt))
                  clear hxy hlt AX
                  go_wp2_with (first | (refine load43 rfl _ rfl _ _ rfl lj ?_) | (refine store43 rfl _ _ rfl _ rfl rfl rfl (encE_size x) (encE_one x) ?_))
                  go_roundw
                  case rel =>
                    refine ⟨j + 1, by omega, by rw [HWS.out], ?_, by go_num, AY⟩
                    have h1 := HJI.out
                    rw [show min j i0 = j by omega, show min (j + 1) i0 = j + 1 by omega]
                    go_num
                  case measure => simp [intOf]; omega
                · have el : Op.bytesLess (addrS x.1).toList (addrS y).toList = false := by rw [addr_less]; simpa using hlt
                  have HJI := hide' (at_ge F9.out (by rw [HX.out]; exact hlt))
                  clear hxy hlt AX
                  go_wp2_with (first | (refine load43 rfl _ rfl _ _ rfl lj ?_) | (refine store43 rfl _ _ rfl _ rfl rfl rfl (encE_size x) (encE_one x) ?_))
                  go_roundw
                  case rel =>
                    refine ⟨j + 1, by omega, by rw [HWS.out], ?_, by go_num, AY⟩
                    have h1 := HJI.out
                    rw [show min j i0 = i0 by omega, show min (j + 1) i0 = i0 by omega]
                  case measure => simp [intOf]; omega
            · obtain rfl : n = j := by omega
              clear hjl hj
              have hin : i0 ≤ n := by rw [← HN.out]; exact F9.out.1
              rw [show min n i0 = i0 by omega]
              obtain ⟨wv, hwv⟩ : ∃ wv, wantAt d y i0 n = wv := ⟨_, rfl⟩
              rw [hwv]
              have HW := hide' hwv
              clear hwv
              obtain ⟨fb, hfb⟩ : ∃ fb : Bool, decide (i0 < n ∧ d[i0]!.1 = y ∧ ¬ ((typ : Int) % 6) = 5) = fb := ⟨_, rfl⟩
              have HFB := hide' hfb
              clear hfb
              go_upto_region 39 with fail
              go_cut [37] from 143 to 149 (fun s37 wx => s37 = .bool fb ∧ wx = wr)
              case first =>
                have t0 : wr.cell? ⟨tb, 0, none⟩ = some (.int .i64 ((typ : Int) % 6)) := (box_cell AX.out.tp 0).trans rfl
                have ltb := lt_box AX.out.tp
                by_cases hfd : i0 < n ∧ d[i0]!.1 = y
                · obtain rfl : wv = (i0 : Int) := by rw [← HW.out]; unfold wantAt; rw [if_pos hfd]
                  have HFD := hide' hfd
                  clear hfd
                  by_cases hty : (typ : Int) % 6 = 5
                  · have hne : ((typ : Int) % 6 != 5) = false := by simp [hty]
                    have hb := hide' (show fb = false by rw [← HFB.out]; simp [hty])
                    clear hty
                    go_wp2_with fail
                    go_meet
                    case rel => exact ⟨by rw [hb.out], rfl⟩
                  · have hne : ((typ : Int) % 6 != 5) = true := by simp [hty]
                    have hb := hide' (show fb = true by rw [← HFB.out]; simp [hty]; exact HFD.out)
                    go_wp2_with fail
                    go_meet
                    case rel => exact ⟨by rw [hb.out], rfl⟩
                · obtain rfl : wv = -1 := by rw [← HW.out]; unfold wantAt; rw [if_neg hfd]
                  have hb := hide' (show fb = false by rw [← HFB.out]; exact decide_eq_false (fun h => hfd ⟨h.1, h.2.1⟩))
                  clear hfd
                  go_wp2_with fail
                  go_meet
                  case rel => exact ⟨by rw [hb.out], rfl⟩
              case rest =>
              obtain ⟨rfl, ec⟩ := hcut
              replace ec := ec.symm
              subst ec
              go_upto_if 150 with fail
              go_cut [37] from 150 to 183 (fun s37 wx => s37 = .bool tk ∧ Hid (AF w wx w.heap.size gb tb sb ob n ((typ : Int) % 6) d tvs y t2 gen g' x2))
              case first =>
                cases fb with
                | false =>
                  have hb := hide' (show tk = false by
                    rcases TK9.out with h | h
                    · exact h.1
                    · have h2 := of_decide_eq_false HFB.out
                      exact absurd ⟨by rw [← HN.out]; exact h.2.1.1, h.2.1.2.1, h.2.1.2.2.1⟩ h2)
                  go_wp2_with fail
                  go_meet
                  case rel => exact ⟨by rw [hb.out], AX⟩
                | true =>
                  have hf3 := of_decide_eq_true HFB.out
                  obtain rfl : wv = (i0 : Int) := by rw [← HW.out]; unfold wantAt; rw [if_pos ⟨hf3.1, hf3.2.1⟩]
                  obtain ⟨x, hx⟩ : ∃ x, d[i0]! = x := ⟨_, rfl⟩
                  have hid : i0 < d.size := by rw [HN.out]; exact hf3.1
                  have hinz : (i0 : Int) < (n : Int) := by have := hf3.1; omega
                  have x14 : wr.cell? ⟨w.heap.size, i0 * 26 + 14, none⟩ = some (.pointer x.2.1) := (AX.out.ds.row.cellc hid hx 14 (by omega)).trans rfl
                  have llb := AX.out.ds.lt
                  have V1 := AX.out.ds.tv i0 hid
                  have V2 := AX.out.tv
                  rw [hx] at V1
                  have htk2 : tk = !decide (0 < tvCmp (tvs i0) x2) := by
                    rcases TK9.out with h | h
                    · rw [h.1]
                      have : 0 < tvCmp (tvs i0) x2 := by
                        rcases Int.lt_or_le 0 (tvCmp (tvs i0) x2) with hh | hh
                        · exact hh
                        · exact absurd ⟨hid, hf3.2.1, hf3.2.2, by omega⟩ h.2.1
                      simp [this]
                    · rw [h.1]
                      have := h.2.1.2.2.2
                      simp [this]
                  generalize tvs i0 = x1 at V1 htk2
                  clear hx hf3 hid HW
                  match x1, x2, V1, V2 with
                  | none, _, V1, _ =>
                    have e1 : x.2.1 = none := V1
                    rw [e1] at x14
                    have HTKb := hide' (show tk = true by rw [htk2]; simp [tvCmp])
                    clear htk2 e1
                    go_upto_region 42 with fail
                    go_quiet (fail)
                    go_wp2_with fail
                    go_meet
                    case rel => exact ⟨by rw [HTKb.out], AX.out.then (Kept.drewN [] _ _)⟩
                  | some (p1, c1), none, V1, V2 =>
                    obtain ⟨b1, e1, _⟩ := V1
                    have e2 : t2 = none := V2
                    rw [e1] at x14
                    subst e2
                    have HTKb := hide' (show tk = true by rw [htk2]; simp [tvCmp])
                    clear htk2 e1
                    go_upto_region 42 with fail
                    go_quiet (fail)
                    go_wp2_with fail
                    go_meet
                    case rel => exact ⟨by rw [HTKb.out], AX.out.then (Kept.drewN [] _ _)⟩
                  | some (p1, c1), some (p2, c2), V1, V2 =>
                    obtain ⟨b1, e1, k1⟩ := V1
                    obtain ⟨b2, e2, k2⟩ := V2
                    rw [e1] at x14
                    subst e2
                    have l1 := lt_box k1
                    have l2 := lt_box k2
                    have f1 := fun i => box_cell k1 i
                    have f2 := fun i => box_cell k2 i
                    simp only [tvCells] at f1 f2
                    have heq := fun W => arr_eql p1 p2 W
                    by_cases hpp : p1 = p2
                    · subst hpp
                      simp only [beq_self_eq_true] at heq
                      by_cases hcc : c2 < c1
                      · have HTKb := hide' (show tk = false by rw [htk2]; simp [tvCmp, hcc, show ¬ c1 < c2 by omega])
                        clear htk2 e1 k1 k2
                        go_upto_region 42 with fail
                        go_quiet (fail)
                        go_wp2_with fail
                        go_meet
                        case rel => exact ⟨by rw [HTKb.out], AX.out.then (Kept.drewN [] _ _)⟩
                      · have HTKb := hide' (show tk = true by rw [htk2]; simp [tvCmp, hcc]; split <;> simp)
                        clear htk2 e1 k1 k2
                        go_upto_region 42 with fail
                        go_quiet (fail)
                        go_wp2_with fail
                        go_meet
                        case rel => exact ⟨by rw [HTKb.out], AX.out.then (Kept.drewN [] _ _)⟩
                    · have hpb : (p1 == p2) = false := by simpa using hpp
                      simp only [hpb] at heq
                      have HTKb := hide' (show tk = true by rw [htk2]; simp [tvCmp, hpp])
                      clear htk2 e1 k1 k2 hpb
                      go_upto_region 42 with fail
                      go_quiet (fail)
                      go_wp2_with fail
                      go_meet
                      case rel => exact ⟨by rw [HTKb.out], AX.out.then (Kept.drewN [] _ _)⟩
              case rest =>
              obtain ⟨rfl, AZ⟩ := hcut
              go_upto_if 185 with fail
              go_cut [39] from 185 to 193 (fun s39 wx => s39 = .int .u64 g' ∧ wx = wc)
              case first =>
                cases tk with
                | false =>
                  have hg := hide' (show g' = gen by
                    rcases TK9.out with h | h
                    · exact h.2.2
                    · exact absurd h.1 (by simp))
                  go_wp2_with fail
                  go_meet
                  case rel => exact ⟨by rw [hg.out], rfl⟩
                | true =>
                  have hta : Takes d tvs x2 ((typ : Int) % 6) y i0 ∧ g' = if cl then IntKind.u64.wrap (d[i0]!.2.2 + 1) else d[i0]!.2.2 := by
                    rcases TK9.out with h | h
                    · exact absurd h.1 (by simp)
                    · exact h.2
                  obtain ⟨x, hx⟩ : ∃ x, d[i0]! = x := ⟨_, rfl⟩
                  have hid := hta.1.1
                  have hin2 : i0 < n := by rw [← HN.out]; exact hid
                  obtain rfl : wv = (i0 : Int) := by rw [← HW.out]; unfold wantAt; rw [if_pos ⟨hin2, hta.1.2.1⟩]
                  have hinz : (i0 : Int) < (n : Int) := by omega
                  have x25 : wc.cell? ⟨w.heap.size, i0 * 26 + 25, none⟩ = some (.int .u64 x.2.2) := (AZ.out.ds.row.cellc hid hx 25 (by omega)).trans rfl
                  have llb := AZ.out.ds.lt
                  have hg2 := hta.2
                  rw [hx] at hg2
                  have HG2 := hide' hg2
                  clear hx hta hid hg2 hin2 HW
                  cases cl with
                  | false =>
                    go_wp2_with fail
                    go_meet
                    case rel => exact ⟨by rw [HG2.out]; rfl, rfl⟩
                  | true =>
                    go_wp2_with fail
                    go_meet
                    case rel => exact ⟨by rw [HG2.out]; rfl, rfl⟩
              case rest =>
              obtain ⟨rfl, ec⟩ := hcut
              replace ec := ec.symm
              subst ec
              have o25 : wc.cell? ⟨ob, 25, none⟩ = some (.int .u64 g') := (box_cell AZ.out.gt 25).trans rfl
              have o0 : wc.cell? ⟨ob, 0, none⟩ = some (.string (addrS y)) := (box_cell AZ.out.gt 0).trans rfl
              have o2 : wc.cell? ⟨ob, 2, none⟩ = some (.string ⟨#[120]⟩) := (box_cell AZ.out.gt 2).trans rfl
              have o14 : wc.cell? ⟨ob, 14, none⟩ = some (.pointer t2) := (box_cell AZ.out.gt 14).trans rfl
              have s0 : wc.cell? ⟨sb, 0, none⟩ = some (.string (addrS y)) := (box_cell AZ.out.sv 0).trans rfl
              have tb2 : wc.cell? ⟨tb, 2, none⟩ = some (.slice (some ⟨w.heap.size, 0, none⟩) n 5) := (box_cell AZ.out.tp 2).trans rfl
              clear HW
              have hpn := fun W => ptr_neq t2 W
              go_upto_region 54 with fail
              clear o25 o0 o2 o14 s0 tb2 hpn
              go_loopw [227] (fun jv wx => ∃ j : Nat, j ≤ n ∧ jv = .int .i64 j ∧ Hid (AF w wx w.heap.size gb tb sb ob n ((typ : Int) % 6) d tvs y t2 gen g' x2)) (fun jv _ => n - (intOf jv).toNat)
              case atStart => exact ⟨0, Nat.zero_le _, rfl, AZ⟩
              case round =>
                clear AZ
                obtain ⟨j, hj, rfl, AW⟩ := hrel
                by_cases hjl : j < n
                · have hjz : (j : Int) < (n : Int) := by omega
                  obtain ⟨x, hx⟩ : ∃ x, d[j]! = x := ⟨_, rfl⟩
                  have hjd : j < d.size := by rw [HN.out]; exact hjl
                  have lj := AW.out.ds.row.load hjd hx
                  have e25 : (encE x)[25]? = some (.int .u64 x.2.2) := rfl
                  obtain ⟨cur, g1, g2, g3⟩ := AW.out.gs
                  have gc : wr.cell? ⟨gb, j, none⟩ = some (.int .u64 x.2.2) := by
                    rw [box_cell g1]
                    have := g3 j hjl
                    rw [hx] at this
                    simpa using this
                  have lgb := lt_box g1
                  have AY := hide' (AW.out.then ((Kept.refl [] wr).alloc (.cells (encE x).toArray 43)))
                  clear hx hjd g1 g2 g3 AW
                  go_upto_region 56 with (first | (refine load43 rfl _ rfl _ _ rfl lj ?_) | (refine store43 rfl _ _ rfl _ rfl rfl rfl (encE_size x) (encE_one x) ?_))
                  go_quiet (fail)
                  have AY2 := hide' (AY.out.then (Kept.drewN [] _ nq))
                  go_wp2_with fail
                  go_roundw
                  case rel => exact ⟨j + 1, by omega, by go_num, AY2⟩
                  case measure => simp [intOf]; omega
                · obtain rfl : n = j := by omega
                  go_wp2_with fail
                  go_ret
                  exact ⟨rfl, AW.out.ds.kept⟩
end Go.Proofs.Ybulkdsw
