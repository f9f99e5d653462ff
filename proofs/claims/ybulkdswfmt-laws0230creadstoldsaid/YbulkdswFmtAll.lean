/-
  Seat b0230aF: the walk of io.ReadAll (26) over a limited reader.
-/
import Derived.Test.YbulkdswFmtRA
import Derived.Test.YbulkdswFmtFull
import Derived.Maps.AppendAt
namespace Go.Proofs.YbulkdswFmt
open Go.RowKit

theorem wpList_append_zeros {w : World} {ops : Array Oper} {rest : List Oper} {o : Oper} {a : Act} {Q : Exit → Act → World → Prop} (hgd : o.guard = none) (s x : Operand)
    (ho : o.op = .call { callee := .builtin .append, args := #[s, x], argTypes := #[22, 3] }) (hs : a.eval s = .slice none 0 0) (X : Int) (n : Nat) (hx : a.eval x = .int .i64 X) (hX : X = (n : Int)) (h0 : 0 < n) (hn : n ≤ 100000)
    (h : ∀ (cap : Nat) (cur : List Value) w', n ≤ cap → cap ≤ maxLen → cur.length = cap → Hid (w'.heap[w.heap.size]? = some (.cells cur.toArray 5 (0, 0))) → Hid (Kept [] w w') → wpList Ybaf.prog ops Q rest (a.put o.dst (.slice (some ⟨w.heap.size, 0, none⟩) n cap)) w') :
    wpList Ybaf.prog ops Q (o :: rest) a w := by
  obtain ⟨i0, hi, hz0, hz1, hz2⟩ := info_parts info5
  subst hX
  have hr := Lib.run_append_nil_zeros (P := Ybaf.prog) w 22 3 o.type 5 i0 (.int .u8 0) .i64 .i64 Ybaf.underlying22 Ybaf.underlying3 hi hz0 n h0 (by omega) (by omega) (by rw [hz2]; omega)
  refine Lib.wpList_append_run w hgd s x 22 3 ho _ _ hs hx _ _ hr (h _ (Builtin.zeroCells (Value.int .u8 0).cells n ++ Builtin.zeroCells (Value.int .u8 0).cells (grownCap w n 0 5 - n)).toList _ (grownCap_ge w _ 0 5) (grownCap_le_maxLen w _ 0 5 (by unfold maxLen; omega)) ?_ ?_ ?_)
  · have := grownCap_ge w n 0 5
    simp [size_zeroCells, Value.cells]
    omega
  · show (w.drew.alloc _).heap[w.heap.size]? = _
    rw [Array.toArray_toList]
    exact heap_alloc_new w.drew _
  · exact (((Kept.refl [] w).drew).alloc _)
theorem info22 : (Ybaf.prog.info? 22).map (fun i => (i.zero, i.size, i.bytes)) = some (some (.slice none 0 0), 1, 24) := by kernel_rfl
theorem row_block {w : World} {B g n cap e : Nat} {xs : List Value} (h : w.ownsRow B e 1 (.slice (some ⟨g, 0, none⟩) n cap) n xs) : ∃ cur : List Value, w.heap[g]? = some (.cells cur.toArray e (0, 0)) ∧ cur.length = cap ∧ cur.take n = xs ∧ B ≤ g ∧ n ≤ cap ∧ cap ≤ maxLen := by
  rcases h.2 with ⟨e, _⟩ | ⟨g', cap', cur, e, hB, hg, h1, h2, hs, ht⟩
  · cases e
  · cases e
    exact ⟨cur.toList, by simpa using hg, by simpa using hs, by simpa using ht, hB, h1, h2⟩

theorem own_shape {w : World} {B e size n : Nat} {v : Value} {xs : List Value} (h : w.ownsRow B e size v n xs) : ∃ a c, v = .slice a n c := by
  rcases h.2 with ⟨rfl, rfl⟩ | ⟨g, cap, cur, e, _⟩
  · exact ⟨_, _, rfl⟩
  · exact ⟨_, _, e⟩

/-- what ReadAll leaves -/
def Got (w : World) (lb rb sb n c k0 N0 : Nat) (zs : List Value) (e : Ending) (w' : World) : Prop :=
  ∃ (g l cap : Nat) (cur : List Value), e = .returned (.tuple #[.slice (some ⟨g, 0, none⟩) l cap, .nilIface]) ∧ w'.heap[g]? = some (.cells cur.toArray 5 (0, 0)) ∧ w.heap.size ≤ g ∧ l = min (n - k0) N0 ∧
      cur.take l = (zs.drop k0).take l ∧ l ≤ cap ∧ cur.length = cap ∧ w'.heap[rb]? = some (.cells #[.slice (some ⟨sb, 0, none⟩) n c, .int .i64 ((k0 + l : Nat) : Int)] 43 (0, 0)) ∧ Kept [lb, rb] w w'
section
variable {w0 w : World} {lb rb sb n c k0 N0 k nx fs : Nat} {zs : List Value} {b : Chunk} {chv : Value} {L : List Chunk}
theorem got_plain (h : RA w0 w lb rb sb n c k0 N0 zs k b nx fs chv []) (hk : k - k0 = min (n - k0) N0) : Got w0 lb rb sb n c k0 N0 zs (.returned (.tuple #[.slice (some ⟨b.g, 0, none⟩) b.l b.c, .nilIface])) w := by
  have h0 := h.fsum
  have h1 := h.sum
  have h2 := h.data
  have h3 := h.k1
  simp at h0 h2
  have e : b.l = k - k0 := by omega
  refine ⟨b.g, b.l, b.c, b.cur, rfl, h.buf.row, h.buf.low, by omega, ?_, h.buf.len, h.buf.size, ?_, h.kept⟩
  · unfold Chunk.dat at h2
    rw [e] at h2 ⊢
    exact h2
  · rw [h.rdr, show k0 + b.l = k by omega]
theorem got_final (h : RA w0 w lb rb sb n c k0 N0 zs k b nx fs chv L) (hk : k - k0 = min (n - k0) N0) {w' : World} {g cap B l : Nat} (hB : B = w.heap.size) (hll : fs + b.l = l) (hb : Below B w w')
    (ho : w'.ownsRow B 5 1 (.slice (some ⟨g, 0, none⟩) l cap) l ((L.map Chunk.dat).flatten ++ b.dat)) : Got w0 lb rb sb n c k0 N0 zs (.returned (.tuple #[.slice (some ⟨g, 0, none⟩) l cap, .nilIface])) w' := by
  subst hll
  obtain ⟨cur, h1, h2, h3, h4, h5, _⟩ := row_block ho
  have h6 := h.sum
  have h7 := h.data
  have h8 := h.k1
  have h9 := h.kept.size
  subst hB
  have kb : Kept [] w w' := ⟨hb.os, hb.tape, hb.output, hb.size, fun i hi _ => hb.block i hi⟩
  refine ⟨g, fs + b.l, cap, cur, rfl, h1, by omega, by omega, ?_, h5, h2, ?_, h.kept.then kb (by simp)⟩
  · rw [h3, h7, h6]
  · rw [kb.block rb (lt_box h.rdr) (by simp), h.rdr, show k0 + (fs + b.l) = k by omega]
end
/-- the chunks as far as they are copied -/
def upTo (L : List Chunk) (i : Nat) : List Value := ((L.take i).map Chunk.dat).flatten
theorem upTo_succ {L : List Chunk} {i : Nat} {x : Chunk} (h : L[i]? = some x) : upTo L (i + 1) = upTo L i ++ x.dat := by
  unfold upTo
  rw [List.take_add_one, h]
  simp
theorem upTo_all (L : List Chunk) : upTo L L.length = (L.map Chunk.dat).flatten := by simp [upTo]
theorem dat_len {x : Chunk} {B : Nat} {w : World} (h : x.ok B w) : x.dat.length = x.l := by
  have := h.len
  have := h.size
  simp [Chunk.dat]
  omega
theorem dat_cells {x : Chunk} {B : Nat} {w : World} (h : x.ok B w) : ∀ j u, x.dat[j]? = some u → w.cell? ((⟨x.g, 0, none⟩ : Addr).add j) = some u := fun j u hj => by
  rw [WideShapes.add_plain, Nat.zero_add, box_cell h.row]
  have hlt := (List.getElem?_eq_some_iff.1 hj).1
  unfold Chunk.dat at hj hlt
  rw [List.length_take] at hlt
  rw [List.getElem?_take_of_lt (by omega)] at hj
  simpa using hj
theorem upTo_le {w0 w : World} {lb rb sb n c k0 N0 k nx fs : Nat} {zs : List Value} {b : Chunk} {chv : Value} {L : List Chunk} (h : RA w0 w lb rb sb n c k0 N0 zs k b nx fs chv L) (i : Nat) : (upTo L i).length ≤ fs := by
  rw [← h.fsum]
  have e : L = L.take i ++ L.drop i := (List.take_append_drop i L).symm
  conv => rhs; rw [e]
  rw [List.map_append, List.flatten_append, List.length_append]
  unfold upTo
  omega

set_option maxHeartbeats 4000000 in
set_option maxRecDepth 100000 in
theorem readAll_any (lb rb sb n c k0 N0 : Nat) (ea : Addr) (zs : List Value) (w : World)
    (hl : w.heap[lb]? = some (.cells #[.iface 41 (.pointer (some ⟨rb, 0, none⟩)), .int .i64 N0] 78 (0, 0)))
    (hr : w.heap[rb]? = some (.cells #[.slice (some ⟨sb, 0, none⟩) n c, .int .i64 k0] 43 (0, 0)))
    (hz : w.heap[sb]? = some (.cells zs.toArray 5 (0, 0))) (hone : ∀ u ∈ zs, u.oneCell' = true) (hzl : zs.length = c) (hk : k0 ≤ n) (hn : n ≤ c) (hc : c ≤ 2000) (hN : N0 ≤ 48000000)
    (hev : w.cell? ⟨1, 0, none⟩ = some (.iface 71 (.pointer (some ea)))) (hlow : 1 < lb ∧ 1 < rb) :
    Calls Ybaf.prog 26 #[.iface 76 (.pointer (some ⟨lb, 0, none⟩))] w fun e w' => Got w lb rb sb n c k0 N0 zs e w' := by
  obtain ⟨i0, hi0, hz0, hz1, hz2⟩ := info_parts info5
  obtain ⟨i1, hi1, hy0, hy1, hy2⟩ := info_parts info22
  have HONE := hide' hone
  have HZ := hide' hz
  have HEV := hide' hev
  have hszb := lt_box hz
  have hszr := lt_box hr
  have hne1 : sb ≠ lb := fun e => by rw [e, hl] at hz; simp at hz
  have hne2 : sb ≠ rb := fun e => by rw [e, hr] at hz; simp at hz
  clear hone hz hev
  go_enter Ybaf.func26, Ybaf.ntmps26
  go_wp2_with (at_make; refine wpList_make_own _ rfl _ _ 22 rfl w.heap.size 5 i0 (.int .u8 0) 1 Ybaf.underlying22 hi0 hz0 hz1 _ _ _ 512 rfl rfl (by omega) ?b2 ?b3 (Nat.le_refl _) ?_)
  case b2 => rw [hz2]; omega
  case b3 => unfold maxLen; omega
  intro W1 own1 grow1
  obtain ⟨bcur, hb1, hb2, _, _, _, hb3⟩ := row_block own1
  have kep1 : Kept [] w W1 := ⟨grow1.os, grow1.tape, grow1.output, grow1.size, fun i hi _ => grow1.block i hi (by simp)⟩
  have hW1 : w.heap.size < W1.heap.size := lt_box hb1
  clear own1 grow1
  go_wp2_with (at_make; refine wpList_make_own _ rfl _ _ 74 rfl w.heap.size 22 i1 (.slice none 0 0) 1 Ybaf.underlying74 hi1 hy0 hy1 _ _ _ 4 rfl rfl (by omega) ?d2 ?d3 (Nat.le_of_lt hW1) ?_)
  case d2 => rw [hy2]; omega
  case d3 => unfold maxLen; omega
  intro W2 own2 grow2
  have kep2 : Kept [] W1 W2 := ⟨grow2.os, grow2.tape, grow2.output, grow2.size, fun i hi _ => grow2.block i hi (by simp)⟩
  have ra : RA w W2 lb rb sb n c k0 N0 zs k0 ⟨w.heap.size, 0, 512, bcur⟩ 256 0 (.slice (some ⟨W1.heap.size, 0, none⟩) 0 4) [] := by
    constructor
    case kept => exact (((Kept.refl [lb, rb] w).then kep1 (by simp)).then kep2 (by simp))
    case lim => rw [kep2.block lb (Nat.lt_of_lt_of_le (lt_box hl) kep1.size) (by simp), kep1.block lb (lt_box hl) (by simp), hl]; simp
    case rdr => rw [kep2.block rb (Nat.lt_of_lt_of_le (lt_box hr) kep1.size) (by simp), kep1.block rb (lt_box hr) (by simp), hr]
    case buf => exact ⟨Nat.le_refl _, (kep2.block _ hW1 (by simp)).trans hb1, Nat.zero_le _, hb2, fun u hu => by simp [Chunk.dat] at hu⟩
    case bmax => exact hb3
    case bmin => show 256 ≤ 512; omega
    case chs => exact own2
    case each => simp
    case data => simp [Chunk.dat]
    case sum => simp
    case fsum => simp
    case cnt => simp
    case nx0 => omega
    case nx1 => omega
    case nx2 => show 2 * 256 ≤ 3 * 512; omega
    case k1 => omega
    case k2 => omega
    case k3 => omega
  have hsb : w.heap.size ≤ W2.heap.size := by have := kep2.size; omega
  clear kep1 kep2 grow2 own2 hb1 hb2 hb3
  go_wp2_with fail
  go_loopw [4, 5, 6, 7] (fun bv nv cv fv wr => ∃ (k : Nat) (b : Chunk) (nx fs : Nat) (L : List Chunk), bv = .slice (some ⟨b.g, 0, none⟩) b.l b.c ∧ nv = .int .i64 nx ∧ fv = .int .i64 fs ∧ b.l < b.c ∧ RA w wr lb rb sb n c k0 N0 zs k b nx fs cv L)
    (fun _ _ _ _ wr => n - (intOf ((wr.cell? ⟨rb, 1, none⟩).getD undef)).toNat)
  case atStart => exact ⟨k0, _, 256, 0, [], rfl, rfl, rfl, by show 0 < 512; omega, ra⟩
  case round =>
    clear ra
    obtain ⟨k, ⟨bg, bl, bc, bcur⟩, nx, fs, L, rfl, rfl, rfl, hroom, ra⟩ := hrel
    have hroom' : bl < bc := hroom
    have k1 := ra.k1
    have k2 := ra.k2
    have k3 := ra.k3
    have hks := ra.kept.size
    have hbm : bc ≤ maxLen := ra.bmax
    unfold maxLen at hbm
    have hbc : ¬ bc = bl := by omega
    have hble : bl ≤ bc := by omega
    have hev1 : wr.cell? ⟨1, 0, none⟩ = some (.iface 71 (.pointer (some ea))) := (ra.kept.cell (by show 1 < w.heap.size; omega) (by simp; omega)).trans HEV.out
    have hst : wr.heap[sb]? = some (.cells zs.toArray 5 (0, 0)) := (ra.kept.block sb hszb (by simp [hne1, hne2])).trans HZ.out
    have CK := hide' (show wr.cell? ⟨rb, 1, none⟩ = some (.int .i64 (k : Int)) by rw [box_cell ra.rdr]; rfl)
    by_cases hR : k < n ∧ k - k0 < N0
    · obtain ⟨hR1, hR2⟩ := hR
      obtain ⟨m, hm⟩ : ∃ m, m = min (min (n - k) (N0 - (k - k0))) (bc - bl) := ⟨_, rfl⟩
      have hbs : bcur.length = bc := ra.buf.size
      have HR := hide' (fun q => lim_some lb rb sb n c k (N0 - (k - k0)) bg bl (bc - bl) (bc - bl) 5 zs bcur (wr.drewN q) ra.lim ra.rdr hR1 hn hc (by omega) (by omega) hst HONE.out hzl ra.buf.row (by omega) (Nat.le_refl _) (fun e => ra.ne_rb ra.buf e.symm) (fun e => ra.ne_lb ra.buf e.symm) ra.lb_rb m hm)
      have hm0 : 0 < m := by omega
      have hm1 : m ≤ n - k := by omega
      have hm2 : m ≤ N0 - (k - k0) := by omega
      have hm3 : m ≤ bc - bl := by omega
      have RD := hide' (fun (w' : World) hl hr hb hk => ra.read (w' := w') (m := m) hzl hn HONE.out hm1 hm2 hm3 hl hr hb hk)
      have RAH := hide' ra
      have hbm' : (bc : Int) ≤ 9223372036854775807 := by omega
      have hs1 : bl + m ≤ bc := by omega
      have hs2 : (bl : Int) + (m : Int) ≤ (bc : Int) := by omega
      clear ra hev1 hst hm hbs
      go_wp2_with fail
      go_region_with (go_at_call 52; refine Calls.mono (HR.out _) ?_; rintro e w1 ⟨rfl, hl1, hr1, hb1, hk1⟩)
      all_goals
        have RA1 := hide' (RD.out w1 hl1 hr1 hb1 (((Kept.refl _ _).drewN' _).trans hk1))
        clear hl1 hr1 hb1 hk1 HR RD RAH
        generalize splice bcur bl ((zs.drop k).take m) = bcur2 at RA1
        have hcnt : L.length ≤ fs := RA1.out.cnt
        have hsum : fs + (bl + m) = k + m - k0 := RA1.out.sum
        have hx0 := RA1.out.nx0
        have hx1 := RA1.out.nx1
        have hks1 := RA1.out.kept.size
        have hbmin : 256 ≤ bc := RA1.out.bmin
        by_cases hfull : (bc : Int) - ((bl : Int) + (m : Int)) < (bc : Int) / 16
        · go_wp2_with (at_builtin; refine wpList_append_own _ rfl _ _ 74 rfl w.heap.size 22 i1 (.slice none 0 0) 1 24 Ybaf.underlying74 hi1 hy0 hy1 hy2 rfl (by decide) _ L.length (L.map Chunk.hdr) rfl (RA1.out.chs.alloc _) ⟨w1.heap.size, 0, none⟩ 1 1 [.slice (some ⟨bg, 0, none⟩) (bl + m) bc] rfl rfl (cell_one_new _ _ _) ?e2 ?e3 ?e4 ?e5 ?_)
          case e2 => intro u hu; simp at hu; subst hu; rfl
          case e3 => unfold maxLen; omega
          case e4 => omega
          case e5 => simp; omega
          intro chv' W3 own3 grow3 _
          have O3 := hide' own3
          have G3 := hide' grow3
          clear own3 grow3
          go_wp2_with (at_builtin; refine wpList_append_zeros rfl _ _ rfl rfl _ nx rfl rfl ?z1 ?z2 ?_)
          case z1 => omega
          case z2 => omega
          intro cap cur W4 hcap1 hcap2 hcl hrow hk4
          have RA2 := hide' (RA1.out.push (by show bc - (bl + m) < bc / 16; omega) O3.out G3.out hcap1 hcap2 hcl hrow.out hk4.out)
          clear RA1 O3 G3 hrow hk4
          go_wp2_with fail
          go_roundw
          case rel => exact ⟨k + m, _, nx + nx / 2, fs + (bl + m), _, rfl, by go_num, by go_num, by show 0 < cap; omega, RA2.out⟩
          case measure =>
            have c1 : W4.cell? ⟨rb, 1, none⟩ = some (.int .i64 ((k + m : Nat) : Int)) := by rw [box_cell RA2.out.rdr]; rfl
            rw [CK.out, c1]
            simp [intOf]
            omega
        · go_wp2_with fail
          go_roundw
          case rel => exact ⟨k + m, _, nx, fs, _, rfl, rfl, rfl, by show bl + m < bc; omega, RA1.out⟩
          case measure =>
            have c1 : w1.cell? ⟨rb, 1, none⟩ = some (.int .i64 ((k + m : Nat) : Int)) := by rw [box_cell RA1.out.rdr]; rfl
            rw [CK.out, c1]
            simp [intOf]
            omega
    · have HE : ∀ q, Calls Ybaf.prog 52 #[.pointer (some ⟨lb, 0, none⟩), .slice (some ⟨bg, bl, none⟩) (bc - bl) (bc - bl)] (wr.drewN q) fun e w' => e = .returned (.tuple #[.int .i64 0, .iface 71 (.pointer (some ea))]) ∧ Kept [] (wr.drewN q) w' := fun q => by
        by_cases h0 : N0 - (k - k0) = 0
        · exact lim_zero lb rb _ (wr.drewN q) (by have := ra.lim; rw [h0] at this; exact this) hev1 _ _ _
        · exact lim_eof lb rb sb n c k (N0 - (k - k0)) _ (wr.drewN q) ra.lim ra.rdr (by omega) (by omega) (by omega) hev1 _ _ _ (Nat.le_refl _)
      have HE' := hide' HE
      have hkl : k - k0 = min (n - k0) N0 := by omega
      have HKL := hide' hkl
      have RAH := hide' ra
      have EV := hide' hev1
      have hbm' : (bc : Int) ≤ 9223372036854775807 := by omega
      have hbli : (bl : Int) ≤ (bc : Int) := by omega
      have hlt1 : 1 < wr.heap.size := by omega
      clear ra hev1 hst HE hkl hR
      go_wp2_with fail
      go_region_with (go_at_call 52; refine Calls.mono (HE'.out _) ?_; rintro e w1 ⟨rfl, hk1⟩)
      all_goals
        have RA1 := hide' (RAH.out.idle (((Kept.refl _ _).drewN' _).trans hk1))
        have ev1 : w1.cell? ⟨1, 0, none⟩ = some (.iface 71 (.pointer (some ea))) := (hk1.cell (by exact hlt1) (by simp)).trans EV.out
        obtain ⟨ca, ccap, hcv⟩ := own_shape RA1.out.chs
        subst hcv
        clear hk1 HE' RAH EV CK
        have hcnt : L.length ≤ fs := RA1.out.cnt
        have hsum : fs + bl = k - k0 := RA1.out.sum
        have hks1 := RA1.out.kept.size
        by_cases hL : L.length = 0
        · obtain rfl : L = [] := List.eq_nil_of_length_eq_zero hL
          have FIN := hide' (got_plain RA1.out HKL.out)
          clear hcnt hsum
          go_wp2_with fail
          go_ret2
          exact FIN.out
        · have hL1 : ¬ (L.length : Int) = 0 := by omega
          have hfb : (fs : Int) + (bl : Int) ≤ 2000 := by omega
          have hfb0 : (0 : Int) < (fs : Int) + (bl : Int) := by omega
          go_wp2_with (at_builtin; refine wpList_append_zeros rfl _ _ rfl rfl _ (fs + bl) rfl ?z0 ?z1 ?z2 ?_)
          case z0 => first | omega | (go_num; omega)
          case z1 => omega
          case z2 => omega
          intro fcap fcur W4 hcap1 hcap2 hcl hrow hk4
          have own4 : W4.ownsRow w1.heap.size 5 1 (.slice (some ⟨w1.heap.size, 0, none⟩) 0 fcap) 0 (upTo L 0) := ⟨by simp [upTo], .inr ⟨w1.heap.size, fcap, fcur.toArray, rfl, Nat.le_refl _, hrow.out, Nat.zero_le _, hcap2, by simp [hcl], by simp [upTo]⟩⟩
          have bel4 : Below w1.heap.size w1 W4 := ⟨hk4.out.os, hk4.out.tape, hk4.out.output, hk4.out.size, fun i hi => hk4.out.block i hi (by simp)⟩
          have OWN4 := hide' own4
          have BEL4 := hide' bel4
          obtain ⟨cg, cc, hce, hcg1, hcg2⟩ := RA1.out.chs.form (by omega)
          cases hce
          clear own4 bel4 hrow hk4 hcl ev1
          go_wp2_with fail
          go_loopw [10, 54] (fun v iv wx => ∃ (i : Nat), i ≤ L.length ∧ iv = .int .i64 i ∧ wx.ownsRow w1.heap.size 5 1 v (upTo L i).length (upTo L i) ∧ Below w1.heap.size w1 wx)
            (fun _ iv _ => L.length - (intOf iv).toNat)
          case atStart => exact ⟨0, Nat.zero_le _, rfl, OWN4.out, BEL4.out⟩
          case round =>
            clear OWN4 BEL4
            obtain ⟨i, hi, rfl, ownx, belx⟩ := hrel
            have hul := upTo_le RA1.out i
            have hxs := belx.size
            have OWX := hide' ownx
            have BEX := hide' belx
            clear ownx belx
            have kb : Kept [] w1 wr := ⟨BEX.out.os, BEX.out.tape, BEX.out.output, BEX.out.size, fun i hi _ => BEX.out.block i hi⟩
            by_cases hlt : i < L.length
            · obtain ⟨x, hx⟩ : ∃ x, L[i]? = some x := ⟨L[i], List.getElem?_eq_getElem hlt⟩
              have hxm : x ∈ L := List.mem_of_getElem? hx
              have hxok : x.ok w.heap.size wr := (RA1.out.each x hxm).1.kept kb (by simp)
              have hcell : wr.cell? ⟨cg, i, none⟩ = some (.slice (some ⟨x.g, 0, none⟩) x.l x.c) := by
                rw [kb.cell (p := ⟨cg, i, none⟩) (by exact hcg2) (by simp), RA1.out.chs.cellAt i (by omega), List.getElem?_map, hx]
                rfl
              have hul2 := upTo_le RA1.out (i + 1)
              rw [upTo_succ hx, List.length_append, dat_len hxok] at hul2
              have hii : (i : Int) < (L.length : Int) := by omega
              have UPS := hide' (upTo_succ hx)
              have XOK := hide' hxok
              clear hx hxm hxok kb
              obtain ⟨xg, xl, xc, xcur⟩ := x
              go_wp2_with (at_builtin; refine wpList_append_own _ rfl (.tmp 58) (.tmp 59) 22 rfl w1.heap.size 5 i0 (.int .u8 0) 1 1 Ybaf.underlying22 hi0 hz0 hz1 hz2 rfl (by decide) _ (upTo L i).length (upTo L i) rfl OWX.out ⟨xg, 0, none⟩ xl xc (Chunk.mk xg xl xc xcur).dat rfl (by rw [dat_len XOK.out]; simp) (dat_cells XOK.out) XOK.out.one ?e3 ?e4 hxs ?_)
              case e3 => unfold maxLen; omega
              case e4 => omega
              intro v5 W5 own5 grow5 _
              have BE5 := hide' (BEX.out.grown grow5 hxs (fun j hj => (OWX.out.lt j hj).1))
              have OW5 := hide' own5
              clear own5 grow5 OWX BEX
              go_wp2_with fail
              go_roundw
              case rel =>
                refine ⟨i + 1, by omega, by go_num, ?_, BE5.out⟩
                rw [UPS.out, List.length_append, dat_len XOK.out]
                exact OW5.out
              case measure => simp [intOf]; omega
            · obtain rfl : i = L.length := by omega
              have hbok : (Chunk.mk bg bl bc bcur).ok w.heap.size wr := RA1.out.buf.kept kb (by simp)
              have hfl : (upTo L L.length).length = fs := by rw [upTo_all]; exact RA1.out.fsum
              rw [hfl] at OWX
              have BOK := hide' hbok
              clear hbok kb hlt hi
              go_wp2_with (at_builtin; refine wpList_append_own _ rfl (.tmp 62) (.tmp 63) 22 rfl w1.heap.size 5 i0 (.int .u8 0) 1 1 Ybaf.underlying22 hi0 hz0 hz1 hz2 rfl (by decide) _ fs (upTo L L.length) rfl OWX.out ⟨bg, 0, none⟩ bl bc (Chunk.mk bg bl bc bcur).dat rfl (by rw [dat_len BOK.out]; simp) (dat_cells BOK.out) BOK.out.one ?e3 ?e4 hxs ?_)
              case e3 => unfold maxLen; omega
              case e4 => omega
              intro v5 W5 own5 grow5 _
              have BE5 := BEX.out.grown grow5 hxs (fun j hj => (OWX.out.lt j hj).1)
              obtain ⟨fg, fc, hv5, _, _⟩ := own5.form (by omega)
              subst hv5
              rw [upTo_all] at own5
              have FIN := hide' (got_final RA1.out HKL.out rfl hsum BE5 own5)
              clear own5 grow5 OWX BEX BE5
              go_wp2_with fail
              go_ret2
              exact FIN.out
end Go.Proofs.YbulkdswFmt
