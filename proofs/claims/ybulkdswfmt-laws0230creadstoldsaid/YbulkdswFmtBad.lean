/-
  Seat b0230aF: the walk of readHeader (18) where the length is refused.
-/
import Derived.Test.YbulkdswFmtHeader
namespace Go.Proofs.YbulkdswFmt
open Go.Extern.Stop Go.Stop Go.Extern Go.RowKit

theorem Kept.thenBelow {a b c : World} (h : Kept [] a b) (k : Below b.heap.size b c) : Kept [] a c :=
  ⟨k.os.trans h.os, k.tape.trans h.tape, k.output.trans h.output, Nat.le_trans h.size k.size, fun i hi hn => (k.block i (Nat.lt_of_lt_of_le hi h.size)).trans (h.block i hi hn)⟩

theorem new_cell {W : World} {C : Array Value} {t : TypeId} {i : Nat} {v : Value} (h : C[i]? = some v) : (W.alloc (.cells C t)).drew.cell? ⟨W.heap.size, i, none⟩ = some v := by
  show (W.alloc (.cells C t)).cell? ⟨W.heap.size, i, none⟩ = some v
  rw [World.cell?_alloc_at _ _ _ _ rfl]
  exact h
theorem err0_at (F : Interp) (W5 : World) (i0 : Int) (hF : F.answers W5.tape) :
    Calls Ybaf.prog 19 #[.string ⟨#[109, 101, 115, 115, 97, 103, 101, 32, 99, 108, 97, 105, 109, 115, 32, 37, 100, 32, 98, 121, 116, 101, 115, 44, 32, 111, 117, 116, 115, 105, 100, 101, 32, 37, 100, 32, 116, 111, 32, 37, 100]⟩, .slice (some ⟨W5.heap.size, 0, none⟩) 3 3] (W5.alloc (.cells #[.iface 21 (.int .i32 i0), .iface 3 (.int .i64 16), .iface 3 (.int .i64 48000000)] 20)).drew fun e w2 => (∃ a, e = .returned (.iface 71 (.pointer (some a)))) ∧ Kept [] W5 w2 :=
  (errorf0 F W5.heap.size i0 16 48000000 (W5.alloc (.cells #[.iface 21 (.int .i32 i0), .iface 3 (.int .i64 16), .iface 3 (.int .i64 48000000)] 20)).drew hF (new_cell (by rfl)) (new_cell (by rfl)) (new_cell (by rfl))).mono fun _ _ h => ⟨h.1, Kept.thenBelow (((Kept.refl _ _).alloc _).drew) h.2⟩

set_option maxHeartbeats 4000000 in
theorem header_small (F : Interp) (rb sb n c k : Nat) (v0 v1 v2 v3 : Nat) (i0 i1 i2 i3 : Int) (zs : List Value) (w : World) (hbox : w.heap[rb]? = some (.cells #[.slice (some ⟨sb, 0, none⟩) n c, .int .i64 k] 43 (0, 0))) (hk : k + 16 ≤ n) (hn : n ≤ c) (hc : c ≤ 2000)
    (hz : w.heap[sb]? = some (.cells zs.toArray 5 (0, 0))) (hone : ∀ u ∈ zs, u.oneCell' = true) (hzl : zs.length = c) (hzz : (zs.drop k).take 16 = head16 v0 v1 v2 v3) (hv0 : v0 < 4294967296) (hv1 : v1 < 4294967296) (hv2 : v2 < 4294967296) (hv3 : v3 < 4294967296)
    (he0 : IntKind.i32.wrap (v0 : Int) = i0) (he1 : IntKind.i32.wrap (v1 : Int) = i1) (he2 : IntKind.i32.wrap (v2 : Int) = i2) (he3 : IntKind.i32.wrap (v3 : Int) = i3) (hF : F.answers w.tape) (hr1 : i0 < 16) :
    Calls Ybaf.prog 18 #[.iface 41 (.pointer (some ⟨rb, 0, none⟩))] w fun e w' => (∃ a, e = .returned (.tuple #[.agg #[.int .i32 i0, .int .i32 i1, .int .i32 i2, .int .i32 i3], .iface 71 (.pointer (some a))])) ∧
      w'.heap[rb]? = some (.cells #[.slice (some ⟨sb, 0, none⟩) n c, .int .i64 ((k + 16 : Nat) : Int)] 43 (0, 0)) ∧ Kept [rb] w w' := by
  have hrb := lt_box hbox
  have hsb := lt_box hz
  have HR := hide' (fun (W : World) (hW : HW w W) => full_of (.iface 41 (.pointer (some ⟨rb, 0, none⟩))) _ (some ⟨w.heap.size + 1, 0, none⟩) 16 16 W _ _ rfl (least_full rb sb n c k (w.heap.size + 1) 61 zs zb16 W ((hW.kept.block rb hrb (by simp)).trans hbox) hk hn hc ((hW.kept.block sb hsb (by simp)).trans hz) hone hzl hW.buf rfl (by omega)))
  rw [hzz] at HR
  have E0 := hide' (show IntKind.i32.wrap ((vAt v0 v1 v2 v3 0 : Nat) : Int) = i0 from he0)
  have E1 := hide' (show IntKind.i32.wrap ((vAt v0 v1 v2 v3 4 : Nat) : Int) = i1 from he1)
  have E2 := hide' (show IntKind.i32.wrap ((vAt v0 v1 v2 v3 8 : Nat) : Int) = i2 from he2)
  have E3 := hide' (show IntKind.i32.wrap ((vAt v0 v1 v2 v3 12 : Nat) : Int) = i3 from he3)
  clear hbox hz hone hzz he0 he1 he2 he3
  go_enter Ybaf.func18, Ybaf.ntmps18
  go_wp2_with fail
  obtain ⟨W, eW, hW⟩ := hw_of w
  rw [← eW]
  refine Calls.mono (HR.out W hW) ?_
  rintro e W1 ⟨rfl, hb1, hp1, hk1⟩
  have r1 := (hk1.block w.heap.size (by rw [hW.size]; omega) (by simp; omega)).trans hW.res
  have K1 := hide' (((Kept.refl [rb] w).then hW.kept (by simp)).then2 hk1 (by omega))
  have B1 := hide' hb1
  have P1 := hide' hp1
  have R1 := hide' r1
  have hs1 : w.heap.size + 1 < W1.heap.size := lt_box hp1
  clear eW hW hk1 r1 hb1 hp1 HR
  go_wp2_with fail
  have H0 := hide' (fun (w' : World) (h : Kept [] W1 w') => le4_all hv0 hv1 hv2 hv3 P1.out h)
  go_region_held3 (fun _ => True) (trivial) (first | (go_at_call 23; refine Calls.mono (H0.out _ (by repeat first | exact Kept.refl _ _ | apply Kept.alloc | apply Kept.drew | apply Kept.drewN') _ _ (by decide)) ?_; rintro e w2 ⟨rfl, q, rfl⟩))
  focus
    simp only [E0.out, E1.out, E2.out, E3.out]
    apply gen5 (W1 := W1) (x := W1.heap.size + 1 + 1 + 1 + 1) (D := #[.int .i32 i0, .int .i32 i1, .int .i32 i2, .int .i32 i3])
    · with_reducible repeat first | apply At.setCell | apply At.drewN | apply At.alloc39 | apply At.mk0 | exact Kept.refl _ _ | apply Kept.alloc | apply Kept.drewN'
      all_goals simp
    · rfl
    intro W5 hat
    have hat' := hide' hat
    clear hat
    obtain ⟨x, hx⟩ : ∃ x, x = W1.heap.size + 1 + 1 + 1 + 1 := ⟨_, rfl⟩
    rw [← hx] at hat' ⊢
    clear hx
  rotate_left
  focus
    simp only [E0.out, E1.out, E2.out, E3.out]
    apply gen5 (W1 := W1) (x := W1.heap.size + 1 + 1 + 1) (D := #[.int .i32 i0, .int .i32 i1, .int .i32 i2, .int .i32 i3])
    · with_reducible repeat first | apply At.setCell | apply At.drewN | apply At.alloc39 | apply At.mk0 | exact Kept.refl _ _ | apply Kept.alloc | apply Kept.drewN'
      all_goals simp
    · rfl
    intro W5 hat
    have hat' := hide' hat
    clear hat
    obtain ⟨x, hx⟩ : ∃ x, x = W1.heap.size + 1 + 1 + 1 := ⟨_, rfl⟩
    rw [← hx] at hat' ⊢
    clear hx
  rotate_left
  focus
    simp only [E0.out, E1.out, E2.out, E3.out]
    apply gen5 (W1 := W1) (x := W1.heap.size + 1 + 1) (D := #[.int .i32 i0, .int .i32 i1, .int .i32 i2, .int .i32 i3])
    · with_reducible repeat first | apply At.setCell | apply At.drewN | apply At.alloc39 | apply At.mk0 | exact Kept.refl _ _ | apply Kept.alloc | apply Kept.drewN'
      all_goals simp
    · rfl
    intro W5 hat
    have hat' := hide' hat
    clear hat
    obtain ⟨x, hx⟩ : ∃ x, x = W1.heap.size + 1 + 1 := ⟨_, rfl⟩
    rw [← hx] at hat' ⊢
    clear hx
  rotate_left
  focus
    simp only [E0.out, E1.out, E2.out, E3.out]
    apply gen5 (W1 := W1) (x := W1.heap.size + 1) (D := #[.int .i32 i0, .int .i32 i1, .int .i32 i2, .int .i32 i3])
    · with_reducible repeat first | apply At.setCell | apply At.drewN | apply At.alloc39 | apply At.mk0 | exact Kept.refl _ _ | apply Kept.alloc | apply Kept.drewN'
      all_goals simp
    · rfl
    intro W5 hat
    have hat' := hide' hat
    clear hat
    obtain ⟨x, hx⟩ : ∃ x, x = W1.heap.size + 1 := ⟨_, rfl⟩
    rw [← hx] at hat' ⊢
    clear hx
  rotate_left
  focus
    simp only [E0.out, E1.out, E2.out, E3.out]
    apply gen5 (W1 := W1) (x := W1.heap.size) (D := #[.int .i32 i0, .int .i32 i1, .int .i32 i2, .int .i32 i3])
    · with_reducible repeat first | apply At.setCell | apply At.drewN | apply At.alloc39 | apply At.mk0 | exact Kept.refl _ _ | apply Kept.alloc | apply Kept.drewN'
      all_goals simp
    · rfl
    intro W5 hat
    have hat' := hide' hat
    clear hat
    obtain ⟨x, hx⟩ : ∃ x, x = W1.heap.size := ⟨_, rfl⟩
    rw [← hx] at hat' ⊢
    clear hx
  rotate_left
  all_goals
    have K5 := hide' (K1.out.then hat'.out.kept (by simp))
    have B5 := hide' ((hat'.out.kept.block rb (by omega) (by simp)).trans B1.out)
    have r5 := (hat'.out.kept.block w.heap.size (by omega) (by simp)).trans R1.out
    have hs5 : w.heap.size < W5.heap.size := lt_box r5
    have hxs : x < W5.heap.size := lt_box hat'.out.row
    have hxw : ¬ x = w.heap.size := by have := hat'.out.low; omega
    have hxw' : ¬ w.heap.size = x := by have := hat'.out.low; omega
    have x0 : W5.cell? ⟨x, 0, none⟩ = some (.int .i32 i0) := (box_cell hat'.out.row 0).trans rfl
    have x1 : W5.cell? ⟨x, 1, none⟩ = some (.int .i32 i1) := (box_cell hat'.out.row 1).trans rfl
    have x2 : W5.cell? ⟨x, 2, none⟩ = some (.int .i32 i2) := (box_cell hat'.out.row 2).trans rfl
    have x3 : W5.cell? ⟨x, 3, none⟩ = some (.int .i32 i3) := (box_cell hat'.out.row 3).trans rfl
    have R5 := hide' r5
    have X5 := hide' hat'.out.row
    clear hat' r5 H0 P1 R1 E0 E1 E2 E3 K1 B1
    have hF5 : F.answers W5.tape := by rw [K5.out.tape]; exact hF
    have HE := hide' (err0_at F W5 i0 hF5)
    go_wp2_with fail
    go_region_held3 (fun w' => w'.cell? ⟨x, 0, none⟩ = some (.int .i32 i0) ∧ w'.cell? ⟨x, 1, none⟩ = some (.int .i32 i1) ∧ w'.cell? ⟨x, 2, none⟩ = some (.int .i32 i2) ∧ w'.cell? ⟨x, 3, none⟩ = some (.int .i32 i3)) (go_keep)
      (first | (go_at_call 19; refine Calls.mono HE.out ?_; rintro e w2 ⟨⟨ea, rfl⟩, k2⟩; have y0 := (k2.cell (p := ⟨x, 0, none⟩) hxs (by simp)).trans x0; have y1 := (k2.cell (p := ⟨x, 1, none⟩) hxs (by simp)).trans x1; have y2 := (k2.cell (p := ⟨x, 2, none⟩) hxs (by simp)).trans x2; have y3 := (k2.cell (p := ⟨x, 3, none⟩) hxs (by simp)).trans x3; have r2 := hide' ((k2.block w.heap.size hs5 (by simp)).trans R5.out); have q0 := box_cell r2.out 0; have q1 := box_cell r2.out 1; have q2 := box_cell r2.out 2; have q3 := box_cell r2.out 3; have f := fun i => free_box (i := i) r2.out))
    all_goals
      go_wp2_with fail
      refine bodyPost_ret (v := .tuple #[.agg #[.int .i32 i0, .int .i32 i1, .int .i32 i2, .int .i32 i3], .iface 71 (.pointer (some ea))]) (by simp [results, Ybaf.results18, go_sem, q0, q1, q2, q3]) rfl ⟨⟨ea, rfl⟩, ?_, ((((K5.out.then k2 (by simp)).setCell _ _ (by simp)).setCell _ _ (by simp)).setCell _ _ (by simp)).setCell _ _ (by simp)⟩
      rw [Below.heap_setCell _ _ _ _ (by show rb ≠ w.heap.size; omega), Below.heap_setCell _ _ _ _ (by show rb ≠ w.heap.size; omega), Below.heap_setCell _ _ _ _ (by show rb ≠ w.heap.size; omega), Below.heap_setCell _ _ _ _ (by show rb ≠ w.heap.size; omega)]
      exact (k2.block rb (by omega) (by simp)).trans B5.out
set_option maxHeartbeats 4000000 in
theorem header_big (F : Interp) (rb sb n c k : Nat) (v0 v1 v2 v3 : Nat) (i0 i1 i2 i3 : Int) (zs : List Value) (w : World) (hbox : w.heap[rb]? = some (.cells #[.slice (some ⟨sb, 0, none⟩) n c, .int .i64 k] 43 (0, 0))) (hk : k + 16 ≤ n) (hn : n ≤ c) (hc : c ≤ 2000)
    (hz : w.heap[sb]? = some (.cells zs.toArray 5 (0, 0))) (hone : ∀ u ∈ zs, u.oneCell' = true) (hzl : zs.length = c) (hzz : (zs.drop k).take 16 = head16 v0 v1 v2 v3) (hv0 : v0 < 4294967296) (hv1 : v1 < 4294967296) (hv2 : v2 < 4294967296) (hv3 : v3 < 4294967296)
    (he0 : IntKind.i32.wrap (v0 : Int) = i0) (he1 : IntKind.i32.wrap (v1 : Int) = i1) (he2 : IntKind.i32.wrap (v2 : Int) = i2) (he3 : IntKind.i32.wrap (v3 : Int) = i3) (hF : F.answers w.tape) (hr1 : 48000000 < i0) :
    Calls Ybaf.prog 18 #[.iface 41 (.pointer (some ⟨rb, 0, none⟩))] w fun e w' => (∃ a, e = .returned (.tuple #[.agg #[.int .i32 i0, .int .i32 i1, .int .i32 i2, .int .i32 i3], .iface 71 (.pointer (some a))])) ∧
      w'.heap[rb]? = some (.cells #[.slice (some ⟨sb, 0, none⟩) n c, .int .i64 ((k + 16 : Nat) : Int)] 43 (0, 0)) ∧ Kept [rb] w w' := by
  have hrb := lt_box hbox
  have hsb := lt_box hz
  have HR := hide' (fun (W : World) (hW : HW w W) => full_of (.iface 41 (.pointer (some ⟨rb, 0, none⟩))) _ (some ⟨w.heap.size + 1, 0, none⟩) 16 16 W _ _ rfl (least_full rb sb n c k (w.heap.size + 1) 61 zs zb16 W ((hW.kept.block rb hrb (by simp)).trans hbox) hk hn hc ((hW.kept.block sb hsb (by simp)).trans hz) hone hzl hW.buf rfl (by omega)))
  rw [hzz] at HR
  have E0 := hide' (show IntKind.i32.wrap ((vAt v0 v1 v2 v3 0 : Nat) : Int) = i0 from he0)
  have E1 := hide' (show IntKind.i32.wrap ((vAt v0 v1 v2 v3 4 : Nat) : Int) = i1 from he1)
  have E2 := hide' (show IntKind.i32.wrap ((vAt v0 v1 v2 v3 8 : Nat) : Int) = i2 from he2)
  have E3 := hide' (show IntKind.i32.wrap ((vAt v0 v1 v2 v3 12 : Nat) : Int) = i3 from he3)
  clear hbox hz hone hzz he0 he1 he2 he3
  go_enter Ybaf.func18, Ybaf.ntmps18
  go_wp2_with fail
  obtain ⟨W, eW, hW⟩ := hw_of w
  rw [← eW]
  refine Calls.mono (HR.out W hW) ?_
  rintro e W1 ⟨rfl, hb1, hp1, hk1⟩
  have r1 := (hk1.block w.heap.size (by rw [hW.size]; omega) (by simp; omega)).trans hW.res
  have K1 := hide' (((Kept.refl [rb] w).then hW.kept (by simp)).then2 hk1 (by omega))
  have B1 := hide' hb1
  have P1 := hide' hp1
  have R1 := hide' r1
  have hs1 : w.heap.size + 1 < W1.heap.size := lt_box hp1
  clear eW hW hk1 r1 hb1 hp1 HR
  go_wp2_with fail
  have H0 := hide' (fun (w' : World) (h : Kept [] W1 w') => le4_all hv0 hv1 hv2 hv3 P1.out h)
  go_region_held3 (fun _ => True) (trivial) (first | (go_at_call 23; refine Calls.mono (H0.out _ (by repeat first | exact Kept.refl _ _ | apply Kept.alloc | apply Kept.drew | apply Kept.drewN') _ _ (by decide)) ?_; rintro e w2 ⟨rfl, q, rfl⟩))
  focus
    simp only [E0.out, E1.out, E2.out, E3.out]
    apply gen5 (W1 := W1) (x := W1.heap.size + 1 + 1 + 1 + 1) (D := #[.int .i32 i0, .int .i32 i1, .int .i32 i2, .int .i32 i3])
    · with_reducible repeat first | apply At.setCell | apply At.drewN | apply At.alloc39 | apply At.mk0 | exact Kept.refl _ _ | apply Kept.alloc | apply Kept.drewN'
      all_goals simp
    · rfl
    intro W5 hat
    have hat' := hide' hat
    clear hat
    obtain ⟨x, hx⟩ : ∃ x, x = W1.heap.size + 1 + 1 + 1 + 1 := ⟨_, rfl⟩
    rw [← hx] at hat' ⊢
    clear hx
  rotate_left
  focus
    simp only [E0.out, E1.out, E2.out, E3.out]
    apply gen5 (W1 := W1) (x := W1.heap.size + 1 + 1 + 1) (D := #[.int .i32 i0, .int .i32 i1, .int .i32 i2, .int .i32 i3])
    · with_reducible repeat first | apply At.setCell | apply At.drewN | apply At.alloc39 | apply At.mk0 | exact Kept.refl _ _ | apply Kept.alloc | apply Kept.drewN'
      all_goals simp
    · rfl
    intro W5 hat
    have hat' := hide' hat
    clear hat
    obtain ⟨x, hx⟩ : ∃ x, x = W1.heap.size + 1 + 1 + 1 := ⟨_, rfl⟩
    rw [← hx] at hat' ⊢
    clear hx
  rotate_left
  focus
    simp only [E0.out, E1.out, E2.out, E3.out]
    apply gen5 (W1 := W1) (x := W1.heap.size + 1 + 1) (D := #[.int .i32 i0, .int .i32 i1, .int .i32 i2, .int .i32 i3])
    · with_reducible repeat first | apply At.setCell | apply At.drewN | apply At.alloc39 | apply At.mk0 | exact Kept.refl _ _ | apply Kept.alloc | apply Kept.drewN'
      all_goals simp
    · rfl
    intro W5 hat
    have hat' := hide' hat
    clear hat
    obtain ⟨x, hx⟩ : ∃ x, x = W1.heap.size + 1 + 1 := ⟨_, rfl⟩
    rw [← hx] at hat' ⊢
    clear hx
  rotate_left
  focus
    simp only [E0.out, E1.out, E2.out, E3.out]
    apply gen5 (W1 := W1) (x := W1.heap.size + 1) (D := #[.int .i32 i0, .int .i32 i1, .int .i32 i2, .int .i32 i3])
    · with_reducible repeat first | apply At.setCell | apply At.drewN | apply At.alloc39 | apply At.mk0 | exact Kept.refl _ _ | apply Kept.alloc | apply Kept.drewN'
      all_goals simp
    · rfl
    intro W5 hat
    have hat' := hide' hat
    clear hat
    obtain ⟨x, hx⟩ : ∃ x, x = W1.heap.size + 1 := ⟨_, rfl⟩
    rw [← hx] at hat' ⊢
    clear hx
  rotate_left
  focus
    simp only [E0.out, E1.out, E2.out, E3.out]
    apply gen5 (W1 := W1) (x := W1.heap.size) (D := #[.int .i32 i0, .int .i32 i1, .int .i32 i2, .int .i32 i3])
    · with_reducible repeat first | apply At.setCell | apply At.drewN | apply At.alloc39 | apply At.mk0 | exact Kept.refl _ _ | apply Kept.alloc | apply Kept.drewN'
      all_goals simp
    · rfl
    intro W5 hat
    have hat' := hide' hat
    clear hat
    obtain ⟨x, hx⟩ : ∃ x, x = W1.heap.size := ⟨_, rfl⟩
    rw [← hx] at hat' ⊢
    clear hx
  rotate_left
  all_goals
    have K5 := hide' (K1.out.then hat'.out.kept (by simp))
    have B5 := hide' ((hat'.out.kept.block rb (by omega) (by simp)).trans B1.out)
    have r5 := (hat'.out.kept.block w.heap.size (by omega) (by simp)).trans R1.out
    have hs5 : w.heap.size < W5.heap.size := lt_box r5
    have hxs : x < W5.heap.size := lt_box hat'.out.row
    have hxw : ¬ x = w.heap.size := by have := hat'.out.low; omega
    have hxw' : ¬ w.heap.size = x := by have := hat'.out.low; omega
    have x0 : W5.cell? ⟨x, 0, none⟩ = some (.int .i32 i0) := (box_cell hat'.out.row 0).trans rfl
    have x1 : W5.cell? ⟨x, 1, none⟩ = some (.int .i32 i1) := (box_cell hat'.out.row 1).trans rfl
    have x2 : W5.cell? ⟨x, 2, none⟩ = some (.int .i32 i2) := (box_cell hat'.out.row 2).trans rfl
    have x3 : W5.cell? ⟨x, 3, none⟩ = some (.int .i32 i3) := (box_cell hat'.out.row 3).trans rfl
    have R5 := hide' r5
    have X5 := hide' hat'.out.row
    clear hat' r5 H0 P1 R1 E0 E1 E2 E3 K1 B1
    have hF5 : F.answers W5.tape := by rw [K5.out.tape]; exact hF
    have HE := hide' (err0_at F W5 i0 hF5)
    have hr0 : ¬ i0 < 16 := by omega
    go_wp2_with fail
    go_region_held3 (fun w' => w'.cell? ⟨x, 0, none⟩ = some (.int .i32 i0) ∧ w'.cell? ⟨x, 1, none⟩ = some (.int .i32 i1) ∧ w'.cell? ⟨x, 2, none⟩ = some (.int .i32 i2) ∧ w'.cell? ⟨x, 3, none⟩ = some (.int .i32 i3)) (go_keep)
      (first | (go_at_call 19; refine Calls.mono HE.out ?_; rintro e w2 ⟨⟨ea, rfl⟩, k2⟩; have y0 := (k2.cell (p := ⟨x, 0, none⟩) hxs (by simp)).trans x0; have y1 := (k2.cell (p := ⟨x, 1, none⟩) hxs (by simp)).trans x1; have y2 := (k2.cell (p := ⟨x, 2, none⟩) hxs (by simp)).trans x2; have y3 := (k2.cell (p := ⟨x, 3, none⟩) hxs (by simp)).trans x3; have r2 := hide' ((k2.block w.heap.size hs5 (by simp)).trans R5.out); have q0 := box_cell r2.out 0; have q1 := box_cell r2.out 1; have q2 := box_cell r2.out 2; have q3 := box_cell r2.out 3; have f := fun i => free_box (i := i) r2.out))
    all_goals
      go_wp2_with fail
      refine bodyPost_ret (v := .tuple #[.agg #[.int .i32 i0, .int .i32 i1, .int .i32 i2, .int .i32 i3], .iface 71 (.pointer (some ea))]) (by simp [results, Ybaf.results18, go_sem, q0, q1, q2, q3]) rfl ⟨⟨ea, rfl⟩, ?_, ((((K5.out.then k2 (by simp)).setCell _ _ (by simp)).setCell _ _ (by simp)).setCell _ _ (by simp)).setCell _ _ (by simp)⟩
      rw [Below.heap_setCell _ _ _ _ (by show rb ≠ w.heap.size; omega), Below.heap_setCell _ _ _ _ (by show rb ≠ w.heap.size; omega), Below.heap_setCell _ _ _ _ (by show rb ≠ w.heap.size; omega), Below.heap_setCell _ _ _ _ (by show rb ≠ w.heap.size; omega)]
      exact (k2.block rb (by omega) (by simp)).trans B5.out
end Go.Proofs.YbulkdswFmt
