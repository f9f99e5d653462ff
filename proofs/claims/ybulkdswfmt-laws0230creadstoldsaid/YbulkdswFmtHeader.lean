/-
  Seat b0230aF: the walk of readHeader (18).
-/
import Derived.Test.YbulkdswFmtBody
import Derived.Test.YbulkdswFmtFacts
namespace Go.Proofs.YbulkdswFmt
open Go.Extern.Stop Go.Stop Go.Extern Go.RowKit

/-- sixteen bytes: four words, the least byte first -/
def head16 (a b c d : Nat) : List Value := le4 a ++ le4 b ++ le4 c ++ le4 d

def zb16 : List Value := [.int .u8 0, .int .u8 0, .int .u8 0, .int .u8 0, .int .u8 0, .int .u8 0, .int .u8 0, .int .u8 0, .int .u8 0, .int .u8 0, .int .u8 0, .int .u8 0, .int .u8 0, .int .u8 0, .int .u8 0, .int .u8 0]
structure HW (w W : World) : Prop where
  res : W.heap[w.heap.size]? = some (.cells #[.int .i32 0, .int .i32 0, .int .i32 0, .int .i32 0] 45 (0, 0))
  buf : W.heap[w.heap.size + 1]? = some (.cells zb16.toArray 61 (0, 0))
  kept : Kept [] w W
  size : W.heap.size = w.heap.size + 2
theorem hw_of (w : World) : ∃ W, W = (w.alloc (.cells #[.int .i32 0, .int .i32 0, .int .i32 0, .int .i32 0] 45)).alloc (.cells #[.int .u8 0, .int .u8 0, .int .u8 0, .int .u8 0, .int .u8 0, .int .u8 0, .int .u8 0, .int .u8 0, .int .u8 0, .int .u8 0, .int .u8 0, .int .u8 0, .int .u8 0, .int .u8 0, .int .u8 0, .int .u8 0] 61) ∧ HW w W := by
  refine ⟨_, rfl, ?_, ?_, ((Kept.refl _ _).alloc _).alloc _, by simp⟩
  · rw [Below.heap_alloc _ _ _ (by simp)]
    exact heap_alloc_new _ _
  · have := heap_alloc_new (w.alloc (.cells #[.int .i32 0, .int .i32 0, .int .i32 0, .int .i32 0] 45)) (.cells zb16.toArray 61)
    simpa [zb16] using this

theorem Kept.then2 {a b c : World} {r x : Nat} (h : Kept [r] a b) (k : Kept [r, x] b c) (hx : a.heap.size ≤ x) : Kept [r] a c := by
  refine h.then k (fun t ht hlt => ?_)
  simp at ht
  rcases ht with rfl | rfl
  · simp
  · omega

set_option maxHeartbeats 2000000 in
theorem header_none (rb sb n c k : Nat) (ea : Addr) (w : World) (hbox : w.heap[rb]? = some (.cells #[.slice (some ⟨sb, 0, none⟩) n c, .int .i64 k] 43 (0, 0))) (hr : n ≤ k) (hev : w.cell? ⟨1, 0, none⟩ = some (.iface 71 (.pointer (some ea)))) (h1 : 1 < w.heap.size) :
    Calls Ybaf.prog 18 #[.iface 41 (.pointer (some ⟨rb, 0, none⟩))] w fun e w' => e = .returned (.tuple #[.agg #[.int .i32 0, .int .i32 0, .int .i32 0, .int .i32 0], .iface 71 (.pointer (some ea))]) ∧ Kept [] w w' := by
  have hrb := lt_box hbox
  have HR := hide' (fun (W : World) (hW : Kept [] w W) (hb : Nat) => full_of (.iface 41 (.pointer (some ⟨rb, 0, none⟩))) _ (some ⟨hb, 0, none⟩) 16 16 W _ _ rfl (least_none rb sb n c k hb 71 (.pointer (some ea)) W ((hW.block rb hrb (by simp)).trans hbox) hr ((hW.cell h1 (by simp)).trans hev)))
  clear hbox hev
  go_enter Ybaf.func18, Ybaf.ntmps18
  go_wp2_with fail
  obtain ⟨W, eW, hW⟩ := hw_of w
  rw [← eW]
  refine Calls.mono (HR.out W hW.kept _) ?_
  rintro e W1 ⟨rfl, hk1⟩
  have r1 := (hk1.block w.heap.size (by rw [hW.size]; omega) (by simp)).trans hW.res
  have q0 := box_cell r1 0
  have q1 := box_cell r1 1
  have q2 := box_cell r1 2
  have q3 := box_cell r1 3
  have f := fun i => free_box (i := i) r1
  have K1 := hide' (hW.kept.trans hk1)
  clear eW hW hk1 r1
  go_wp2_with fail
  exact bodyPost_ret (v := .tuple #[.agg #[.int .i32 0, .int .i32 0, .int .i32 0, .int .i32 0], .iface 71 (.pointer (some ea))]) (by simp [results, Ybaf.results18, go_sem, q0, q1, q2, q3]) rfl ⟨rfl, (((K1.out.setCell _ _ (by simp)).setCell _ _ (by simp)).setCell _ _ (by simp)).setCell _ _ (by simp)⟩

set_option maxHeartbeats 2000000 in
theorem header_part (rb sb n c k : Nat) (ea ua : Addr) (zs : List Value) (w : World) (hbox : w.heap[rb]? = some (.cells #[.slice (some ⟨sb, 0, none⟩) n c, .int .i64 k] 43 (0, 0))) (hk0 : k < n) (hk : n < k + 16) (hn : n ≤ c) (hc : c ≤ 2000)
    (hz : w.heap[sb]? = some (.cells zs.toArray 5 (0, 0))) (hone : ∀ u ∈ zs, u.oneCell' = true) (hzl : zs.length = c)
    (hev : w.cell? ⟨1, 0, none⟩ = some (.iface 71 (.pointer (some ea)))) (huv : w.cell? ⟨2, 0, none⟩ = some (.iface 71 (.pointer (some ua)))) (h1 : 2 < rb) :
    Calls Ybaf.prog 18 #[.iface 41 (.pointer (some ⟨rb, 0, none⟩))] w fun e w' => e = .returned (.tuple #[.agg #[.int .i32 0, .int .i32 0, .int .i32 0, .int .i32 0], .iface 71 (.pointer (some ua))]) ∧
      w'.heap[rb]? = some (.cells #[.slice (some ⟨sb, 0, none⟩) n c, .int .i64 n] 43 (0, 0)) ∧ Kept [rb] w w' := by
  have hrb := lt_box hbox
  have hsb := lt_box hz
  have HR := hide' (fun (W : World) (hW : HW w W) => full_of (.iface 41 (.pointer (some ⟨rb, 0, none⟩))) _ (some ⟨w.heap.size + 1, 0, none⟩) 16 16 W _ _ rfl (least_part rb sb n c k (w.heap.size + 1) 61 ea ua zs zb16 W ((hW.kept.block rb hrb (by simp)).trans hbox) hk0 hk hn hc ((hW.kept.block sb hsb (by simp)).trans hz) hone hzl hW.buf rfl (by omega)
    ((hW.kept.cell (by show 1 < w.heap.size; omega) (by simp)).trans hev) ((hW.kept.cell (by show 2 < w.heap.size; omega) (by simp)).trans huv) ⟨h1, by omega⟩))
  clear hbox hev huv hz hone
  go_enter Ybaf.func18, Ybaf.ntmps18
  go_wp2_with fail
  obtain ⟨W, eW, hW⟩ := hw_of w
  rw [← eW]
  refine Calls.mono (HR.out W hW) ?_
  rintro e W1 ⟨rfl, hb1, hk1⟩
  have r1 := (hk1.block w.heap.size (by rw [hW.size]; omega) (by simp; omega)).trans hW.res
  have q0 := box_cell r1 0
  have q1 := box_cell r1 1
  have q2 := box_cell r1 2
  have q3 := box_cell r1 3
  have f := fun i => free_box (i := i) r1
  have K1 := hide' (((Kept.refl [rb] w).then hW.kept (by simp)).then2 hk1 (by omega))
  have B1 := hide' hb1
  clear eW hW hk1 r1 hb1
  go_wp2_with fail
  refine bodyPost_ret (v := .tuple #[.agg #[.int .i32 0, .int .i32 0, .int .i32 0, .int .i32 0], .iface 71 (.pointer (some ua))]) (by simp [results, Ybaf.results18, go_sem, q0, q1, q2, q3]) rfl ⟨rfl, ?_, (((K1.out.setCell _ _ (by simp)).setCell _ _ (by simp)).setCell _ _ (by simp)).setCell _ _ (by simp)⟩
  rw [Below.heap_setCell _ _ _ _ (by show rb ≠ w.heap.size; omega), Below.heap_setCell _ _ _ _ (by show rb ≠ w.heap.size; omega), Below.heap_setCell _ _ _ _ (by show rb ≠ w.heap.size; omega), Below.heap_setCell _ _ _ _ (by show rb ≠ w.heap.size; omega)]
  exact B1.out

theorem le4_at {w : World} {hb o v : Nat} {pre post : List Value} (hv : v < 4294967296) (hp : w.heap[hb]? = some (.cells (pre ++ le4 v ++ post).toArray 61 (0, 0))) (ho : pre.length = o) (l : Nat) (hl : 4 ≤ l) :
    Calls Ybaf.prog 23 #[.agg #[], .slice (some ⟨hb, o, none⟩) l l] w fun e w' => e = .returned (.int .u32 (v : Nat)) ∧ ∃ q, w' = (w.alloc (.cells #[] 39)).drewN q := by
  have hc : ∀ j, j < 4 → w.cell? ⟨hb, o + j, none⟩ = (le4 v)[j]? := fun j hj => by
    rw [box_cell hp, List.getElem?_toArray, List.append_assoc, List.getElem?_append_right (by omega), List.getElem?_append_left (by simp [le4]; omega)]
    congr 1
    omega
  have e := uint32_any hb o l l (v % 256) (v / 256 % 256) (v / 65536 % 256) (v / 16777216) w hl (by omega) (by omega) (by omega) (by omega)
    ((hc 0 (by omega)).trans (by simp [le4])) ((hc 1 (by omega)).trans (by simp [le4])) ((hc 2 (by omega)).trans (by simp [le4])) ((hc 3 (by omega)).trans (by simp [le4]))
  rw [show v % 256 + v / 256 % 256 * 256 + v / 65536 % 256 * 65536 + v / 16777216 * 16777216 = v by omega] at e
  exact e

def vAt (v0 v1 v2 v3 : Nat) : Nat → Nat
  | 0 => v0
  | 4 => v1
  | 8 => v2
  | _ => v3
theorem le4_all {W1 w : World} {hb v0 v1 v2 v3 : Nat} (hv0 : v0 < 4294967296) (hv1 : v1 < 4294967296) (hv2 : v2 < 4294967296) (hv3 : v3 < 4294967296) (hp : W1.heap[hb]? = some (.cells (head16 v0 v1 v2 v3).toArray 61 (0, 0))) (hk : Kept [] W1 w) (o l : Nat) (ho : (o = 0 ∧ l = 16) ∨ (o = 4 ∧ l = 12) ∨ (o = 8 ∧ l = 8) ∨ (o = 12 ∧ l = 4)) :
    Calls Ybaf.prog 23 #[.agg #[], .slice (some ⟨hb, o, none⟩) l l] w fun e w' => e = .returned (.int .u32 ((vAt v0 v1 v2 v3 o : Nat) : Int)) ∧ ∃ q, w' = (w.alloc (.cells #[] 39)).drewN q := by
  have hp' : w.heap[hb]? = some (.cells (head16 v0 v1 v2 v3).toArray 61 (0, 0)) := (hk.block _ (lt_box hp) (by simp)).trans hp
  rcases ho with ⟨rfl, rfl⟩ | ⟨rfl, rfl⟩ | ⟨rfl, rfl⟩ | ⟨rfl, rfl⟩
  · exact le4_at (pre := []) (post := le4 v1 ++ le4 v2 ++ le4 v3) hv0 (by rw [hp']; simp [head16]) rfl 16 (by omega)
  · exact le4_at (pre := le4 v0) (post := le4 v2 ++ le4 v3) hv1 (by rw [hp']; simp [head16]) rfl 12 (by omega)
  · exact le4_at (pre := le4 v0 ++ le4 v1) (post := le4 v3) hv2 (by rw [hp']; simp [head16]) rfl 8 (by omega)
  · exact le4_at (pre := le4 v0 ++ le4 v1 ++ le4 v2) (post := []) hv3 (by rw [hp']; simp [head16]) rfl 4 (by omega)

/-- the header's own block, wherever the order of the steps has laid it -/
structure At (W1 : World) (x : Nat) (C : Array Value) (W : World) : Prop where
  row : W.heap[x]? = some (.cells C 45 (0, 0))
  kept : Kept [] W1 W
  low : W1.heap.size ≤ x
theorem At.mk0 {W1 W : World} {x : Nat} {C : Array Value} (hk : Kept [] W1 W) (hx : W.heap.size = x) : At W1 x C (W.alloc (.cells C 45)) :=
  ⟨by subst hx; exact heap_alloc_new W _, hk.alloc _, by have := hk.size; omega⟩
theorem At.alloc39 {W1 W : World} {x : Nat} {C : Array Value} (h : At W1 x C W) : At W1 x C (W.alloc (.cells #[] 39)) :=
  ⟨(Below.heap_alloc _ _ _ (lt_box h.row)).trans h.row, h.kept.alloc _, h.low⟩
theorem At.drewN {W1 W : World} {x : Nat} {C : Array Value} (h : At W1 x C W) (q : Nat) : At W1 x C (W.drewN q) := ⟨h.row, h.kept.drewN' _, h.low⟩
theorem At.setCell {W1 W : World} {x i : Nat} {u : Value} {C : Array Value} (h : At W1 x C W) : At W1 x (C.setIfInBounds i u) (W.setCell ⟨x, i, none⟩ u) :=
  ⟨set_block h.row, h.kept.setCell _ _ (fun hlt => absurd h.low (by simpa using hlt)), h.low⟩
theorem gen5 {K : Act → World → Prop} {Q : Exit → Act → World → Prop} {a : Act} {W1 W5 : World} {x : Nat} {C D : Array Value} (h : At W1 x C W5) (hC : C = D) (k : ∀ W, At W1 x D W → Exit.then K Q Exit.normal a W) : Exit.then K Q Exit.normal a W5 := k W5 (hC ▸ h)

set_option maxHeartbeats 4000000 in
theorem header_ok (rb sb n c k : Nat) (v0 v1 v2 v3 : Nat) (i0 i1 i2 i3 : Int) (zs : List Value) (w : World) (hbox : w.heap[rb]? = some (.cells #[.slice (some ⟨sb, 0, none⟩) n c, .int .i64 k] 43 (0, 0))) (hk : k + 16 ≤ n) (hn : n ≤ c) (hc : c ≤ 2000)
    (hz : w.heap[sb]? = some (.cells zs.toArray 5 (0, 0))) (hone : ∀ u ∈ zs, u.oneCell' = true) (hzl : zs.length = c) (hzz : (zs.drop k).take 16 = head16 v0 v1 v2 v3) (hv0 : v0 < 4294967296) (hv1 : v1 < 4294967296) (hv2 : v2 < 4294967296) (hv3 : v3 < 4294967296)
    (he0 : IntKind.i32.wrap (v0 : Int) = i0) (he1 : IntKind.i32.wrap (v1 : Int) = i1) (he2 : IntKind.i32.wrap (v2 : Int) = i2) (he3 : IntKind.i32.wrap (v3 : Int) = i3) (hr1 : 16 ≤ i0) (hr2 : i0 ≤ 48000000) :
    Calls Ybaf.prog 18 #[.iface 41 (.pointer (some ⟨rb, 0, none⟩))] w fun e w' => e = .returned (.tuple #[.agg #[.int .i32 i0, .int .i32 i1, .int .i32 i2, .int .i32 i3], .nilIface]) ∧
      w'.heap[rb]? = some (.cells #[.slice (some ⟨sb, 0, none⟩) n c, .int .i64 ((k + 16 : Nat) : Int)] 43 (0, 0)) ∧ Kept [rb] w w' := by
  have hrb := lt_box hbox
  have hsb := lt_box hz
  have HR := hide' (fun (W : World) (hW : HW w W) => full_of (.iface 41 (.pointer (some ⟨rb, 0, none⟩))) _ (some ⟨w.heap.size + 1, 0, none⟩) 16 16 W _ _ rfl (least_full rb sb n c k (w.heap.size + 1) 61 zs zb16 W ((hW.kept.block rb hrb (by simp)).trans hbox) hk hn hc ((hW.kept.block sb hsb (by simp)).trans hz) hone hzl hW.buf rfl (by omega)))
  rw [hzz] at HR
  have E0 := hide' (show IntKind.i32.wrap ((vAt v0 v1 v2 v3 0 : Nat) : Int) = i0 from he0)
  have E1 := hide' (show IntKind.i32.wrap ((vAt v0 v1 v2 v3 4 : Nat) : Int) = i1 from he1)
  have E2 := hide' (show IntKind.i32.wrap ((vAt v0 v1 v2 v3 8 : Nat) : Int) = i2 from he2)
  have E3 := hide' (show IntKind.i32.wrap ((vAt v0 v1 v2 v3 12 : Nat) : Int) = i3 from he3)
  clear hbox hz hone hzz he0 he1 he2 he3
  go_enter Ybaf.func18, Ybaf.ntmps18
  go_wp2_with fail
  obtain ⟨W, eW, hW⟩ := hw_of w
  rw [← eW]
  refine Calls.mono (HR.out W hW) ?_
  rintro e W1 ⟨rfl, hb1, hp1, hk1⟩
  have r1 := (hk1.block w.heap.size (by rw [hW.size]; omega) (by simp; omega)).trans hW.res
  have K1 := hide' (((Kept.refl [rb] w).then hW.kept (by simp)).then2 hk1 (by omega))
  have B1 := hide' hb1
  have P1 := hide' hp1
  have R1 := hide' r1
  have hs1 : w.heap.size + 1 < W1.heap.size := lt_box hp1
  clear eW hW hk1 r1 hb1 hp1 HR
  go_wp2_with fail
  have H0 := hide' (fun (w' : World) (h : Kept [] W1 w') => le4_all hv0 hv1 hv2 hv3 P1.out h)
  go_region_held3 (fun _ => True) (trivial) (first | (go_at_call 23; refine Calls.mono (H0.out _ (by repeat first | exact Kept.refl _ _ | apply Kept.alloc | apply Kept.drew | apply Kept.drewN') _ _ (by decide)) ?_; rintro e w2 ⟨rfl, q, rfl⟩))
  focus
    simp only [E0.out, E1.out, E2.out, E3.out]
    apply gen5 (W1 := W1) (x := W1.heap.size + 1 + 1 + 1 + 1) (D := #[.int .i32 i0, .int .i32 i1, .int .i32 i2, .int .i32 i3])
    · with_reducible repeat first | apply At.setCell | apply At.drewN | apply At.alloc39 | apply At.mk0 | exact Kept.refl _ _ | apply Kept.alloc | apply Kept.drewN'
      all_goals simp
    · rfl
    intro W5 hat
    have hat' := hide' hat
    clear hat
    obtain ⟨x, hx⟩ : ∃ x, x = W1.heap.size + 1 + 1 + 1 + 1 := ⟨_, rfl⟩
    rw [← hx] at hat' ⊢
    clear hx
  rotate_left
  focus
    simp only [E0.out, E1.out, E2.out, E3.out]
    apply gen5 (W1 := W1) (x := W1.heap.size + 1 + 1 + 1) (D := #[.int .i32 i0, .int .i32 i1, .int .i32 i2, .int .i32 i3])
    · with_reducible repeat first | apply At.setCell | apply At.drewN | apply At.alloc39 | apply At.mk0 | exact Kept.refl _ _ | apply Kept.alloc | apply Kept.drewN'
      all_goals simp
    · rfl
    intro W5 hat
    have hat' := hide' hat
    clear hat
    obtain ⟨x, hx⟩ : ∃ x, x = W1.heap.size + 1 + 1 + 1 := ⟨_, rfl⟩
    rw [← hx] at hat' ⊢
    clear hx
  rotate_left
  focus
    simp only [E0.out, E1.out, E2.out, E3.out]
    apply gen5 (W1 := W1) (x := W1.heap.size + 1 + 1) (D := #[.int .i32 i0, .int .i32 i1, .int .i32 i2, .int .i32 i3])
    · with_reducible repeat first | apply At.setCell | apply At.drewN | apply At.alloc39 | apply At.mk0 | exact Kept.refl _ _ | apply Kept.alloc | apply Kept.drewN'
      all_goals simp
    · rfl
    intro W5 hat
    have hat' := hide' hat
    clear hat
    obtain ⟨x, hx⟩ : ∃ x, x = W1.heap.size + 1 + 1 := ⟨_, rfl⟩
    rw [← hx] at hat' ⊢
    clear hx
  rotate_left
  focus
    simp only [E0.out, E1.out, E2.out, E3.out]
    apply gen5 (W1 := W1) (x := W1.heap.size + 1) (D := #[.int .i32 i0, .int .i32 i1, .int .i32 i2, .int .i32 i3])
    · with_reducible repeat first | apply At.setCell | apply At.drewN | apply At.alloc39 | apply At.mk0 | exact Kept.refl _ _ | apply Kept.alloc | apply Kept.drewN'
      all_goals simp
    · rfl
    intro W5 hat
    have hat' := hide' hat
    clear hat
    obtain ⟨x, hx⟩ : ∃ x, x = W1.heap.size + 1 := ⟨_, rfl⟩
    rw [← hx] at hat' ⊢
    clear hx
  rotate_left
  focus
    simp only [E0.out, E1.out, E2.out, E3.out]
    apply gen5 (W1 := W1) (x := W1.heap.size) (D := #[.int .i32 i0, .int .i32 i1, .int .i32 i2, .int .i32 i3])
    · with_reducible repeat first | apply At.setCell | apply At.drewN | apply At.alloc39 | apply At.mk0 | exact Kept.refl _ _ | apply Kept.alloc | apply Kept.drewN'
      all_goals simp
    · rfl
    intro W5 hat
    have hat' := hide' hat
    clear hat
    obtain ⟨x, hx⟩ : ∃ x, x = W1.heap.size := ⟨_, rfl⟩
    rw [← hx] at hat' ⊢
    clear hx
  rotate_left
  all_goals
    have K5 := hide' (K1.out.then hat'.out.kept (by simp))
    have B5 := hide' ((hat'.out.kept.block rb (by omega) (by simp)).trans B1.out)
    have r5 := (hat'.out.kept.block w.heap.size (by omega) (by simp)).trans R1.out
    have hs5 : w.heap.size < W5.heap.size := lt_box r5
    have hxs : x < W5.heap.size := lt_box hat'.out.row
    have hxw : ¬ x = w.heap.size := by have := hat'.out.low; omega
    have hxw' : ¬ w.heap.size = x := by have := hat'.out.low; omega
    have x0 : W5.cell? ⟨x, 0, none⟩ = some (.int .i32 i0) := (box_cell hat'.out.row 0).trans rfl
    have x1 : W5.cell? ⟨x, 1, none⟩ = some (.int .i32 i1) := (box_cell hat'.out.row 1).trans rfl
    have x2 : W5.cell? ⟨x, 2, none⟩ = some (.int .i32 i2) := (box_cell hat'.out.row 2).trans rfl
    have x3 : W5.cell? ⟨x, 3, none⟩ = some (.int .i32 i3) := (box_cell hat'.out.row 3).trans rfl
    have R5 := hide' r5
    have X5 := hide' hat'.out.row
    clear hat' r5 H0 P1 R1 E0 E1 E2 E3 K1 B1
    have q0 := box_cell R5.out 0
    have q1 := box_cell R5.out 1
    have q2 := box_cell R5.out 2
    have q3 := box_cell R5.out 3
    have f := fun i => free_box (i := i) R5.out
    have hr1' : ¬ i0 < 16 := by omega
    have hr2' : ¬ 48000000 < i0 := by omega
    go_wp2_with fail
    refine bodyPost_ret (v := .tuple #[.agg #[.int .i32 i0, .int .i32 i1, .int .i32 i2, .int .i32 i3], .nilIface]) (by simp [results, Ybaf.results18, go_sem, q0, q1, q2, q3]) rfl ⟨rfl, ?_, (((K5.out.setCell _ _ (by simp)).setCell _ _ (by simp)).setCell _ _ (by simp)).setCell _ _ (by simp)⟩
    rw [Below.heap_setCell _ _ _ _ (by show rb ≠ w.heap.size; omega), Below.heap_setCell _ _ _ _ (by show rb ≠ w.heap.size; omega), Below.heap_setCell _ _ _ _ (by show rb ≠ w.heap.size; omega), Below.heap_setCell _ _ _ _ (by show rb ≠ w.heap.size; omega)]
    exact B5.out
end Go.Proofs.YbulkdswFmt
