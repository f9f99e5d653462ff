/-
  Seat b0230aF: the walk of readResponse (13).
-/
import Derived.Test.YbulkdswFmtBad
namespace Go.Proofs.YbulkdswFmt
open Go.Extern.Stop Go.Stop Go.Extern Go.RowKit

/-- the response's own block, and the header's copy -/
structure RW (w W : World) : Prop where
  res : W.heap[w.heap.size]? = some (.cells #[.int .i32 0, .int .i32 0, .int .i32 0, .int .i32 0] 45 (0, 0))
  kept : Kept [] w W
  size : W.heap.size = w.heap.size + 1
theorem rw_of (w : World) : ∃ W, W = w.alloc (.cells #[.int .i32 0, .int .i32 0, .int .i32 0, .int .i32 0] 45) ∧ RW w W :=
  ⟨_, rfl, heap_alloc_new _ _, (Kept.refl _ _).alloc _, by simp⟩

theorem set4_rb {W : World} {b rb : Nat} {a0 a1 a2 a3 : Value} (h : rb ≠ b) : ((((W.setCell ⟨b, 0, none⟩ a0).setCell ⟨b, 1, none⟩ a1).setCell ⟨b, 2, none⟩ a2).setCell ⟨b, 3, none⟩ a3).heap[rb]? = W.heap[rb]? := by
  rw [Below.heap_setCell _ _ _ _ h, Below.heap_setCell _ _ _ _ h, Below.heap_setCell _ _ _ _ h, Below.heap_setCell _ _ _ _ h]
theorem set4_kept {w W : World} {S : List Nat} {a0 a1 a2 a3 : Value} (h : Kept S w W) : Kept S w ((((W.setCell ⟨w.heap.size, 0, none⟩ a0).setCell ⟨w.heap.size, 1, none⟩ a1).setCell ⟨w.heap.size, 2, none⟩ a2).setCell ⟨w.heap.size, 3, none⟩ a3) :=
  (((h.setCell _ _ (by simp)).setCell _ _ (by simp)).setCell _ _ (by simp)).setCell _ _ (by simp)
theorem set4_size {W : World} {b : Nat} {a0 a1 a2 a3 : Value} : ((((W.setCell ⟨b, 0, none⟩ a0).setCell ⟨b, 1, none⟩ a1).setCell ⟨b, 2, none⟩ a2).setCell ⟨b, 3, none⟩ a3).heap.size = W.heap.size := by simp [World.setCell]

set_option maxHeartbeats 2000000 in
theorem resp_refused (rb : Nat) (q o i0 i1 i2 i3 : Int) (A : Addr → Prop) (X : Option Obj) (w : World) (hrb : rb < w.heap.size)
    (H : ∀ W, Kept [] w W → Calls Ybaf.prog 18 #[.iface 41 (.pointer (some ⟨rb, 0, none⟩))] W fun e w' => (∃ a, e = .returned (.tuple #[.agg #[.int .i32 i0, .int .i32 i1, .int .i32 i2, .int .i32 i3], .iface 71 (.pointer (some a))]) ∧ A a) ∧ w'.heap[rb]? = X ∧ Kept [rb] W w') :
    Calls Ybaf.prog 13 #[.iface 41 (.pointer (some ⟨rb, 0, none⟩)), .int .i32 q, .int .i32 o] w fun e w' => (∃ a, e = .returned (.tuple #[.agg #[.int .i32 i0, .int .i32 i1, .int .i32 i2, .int .i32 i3], .slice none 0 0, .iface 71 (.pointer (some a))]) ∧ A a) ∧ w'.heap[rb]? = X ∧ Kept [rb] w w' := by
  have HR := hide' H
  clear H
  go_enter Ybaf.func13, Ybaf.ntmps13
  go_wp2_with fail
  obtain ⟨W, eW, hW⟩ := rw_of w
  rw [← eW]
  refine Calls.mono (HR.out W hW.kept) ?_
  rintro e W1 ⟨⟨a, rfl, ha⟩, hX, hk1⟩
  have hs : W.heap.size = w.heap.size + 1 := hW.size
  have r1 := (hk1.block w.heap.size (by omega) (by simp; omega)).trans hW.res
  have q0 := box_cell r1 0
  have q1 := box_cell r1 1
  have q2 := box_cell r1 2
  have q3 := box_cell r1 3
  have f := fun i => free_box (i := i) r1
  have hs1 : w.heap.size < W1.heap.size := lt_box r1
  have K1 := hide' (((Kept.refl [rb] w).then hW.kept (by simp)).then hk1 (by simp))
  have X1 := hide' hX
  have A1 := hide' ha
  clear eW hW hk1 r1 hX HR ha
  go_wp2_with fail
  refine bodyPost_ret (v := .tuple #[.agg #[.int .i32 i0, .int .i32 i1, .int .i32 i2, .int .i32 i3], .slice none 0 0, .iface 71 (.pointer (some a))]) (by simp [results, Ybaf.results13, go_sem, q0, q1, q2, q3, hs1]) rfl ⟨⟨a, rfl, A1.out⟩, ?_, (set4_kept K1.out).alloc _⟩
  have := K1.out.size
  rw [Below.heap_alloc _ _ _ (by rw [set4_size]; omega), set4_rb (by omega)]
  exact X1.out

theorem err1_at (F : Interp) (W5 : World) (a b : Int) (hF : F.answers W5.tape) :
    Calls Ybaf.prog 19 #[.string ⟨#[114, 101, 112, 108, 121, 32, 104, 97, 115, 32, 111, 112, 67, 111, 100, 101, 32, 37, 100, 44, 32, 119, 97, 110, 116, 32, 37, 100]⟩, .slice (some ⟨W5.heap.size, 0, none⟩) 2 2] (W5.alloc (.cells #[.iface 21 (.int .i32 a), .iface 21 (.int .i32 b)] 20)).drew fun e w2 => (∃ a, e = .returned (.iface 71 (.pointer (some a)))) ∧ Kept [] W5 w2 :=
  (errorf1 F W5.heap.size a b (W5.alloc (.cells #[.iface 21 (.int .i32 a), .iface 21 (.int .i32 b)] 20)).drew hF (new_cell (by rfl)) (new_cell (by rfl))).mono fun _ _ h => ⟨h.1, Kept.thenBelow (((Kept.refl _ _).alloc _).drew) h.2⟩
theorem err2_at (F : Interp) (W5 : World) (a b : Int) (hF : F.answers W5.tape) :
    Calls Ybaf.prog 19 #[.string ⟨#[114, 101, 112, 108, 121, 32, 97, 110, 115, 119, 101, 114, 115, 32, 114, 101, 113, 117, 101, 115, 116, 32, 37, 100, 44, 32, 119, 97, 110, 116, 32, 37, 100]⟩, .slice (some ⟨W5.heap.size, 0, none⟩) 2 2] (W5.alloc (.cells #[.iface 21 (.int .i32 a), .iface 21 (.int .i32 b)] 20)).drew fun e w2 => (∃ a, e = .returned (.iface 71 (.pointer (some a)))) ∧ Kept [] W5 w2 :=
  (errorf2 F W5.heap.size a b (W5.alloc (.cells #[.iface 21 (.int .i32 a), .iface 21 (.int .i32 b)] 20)).drew hF (new_cell (by rfl)) (new_cell (by rfl))).mono fun _ _ h => ⟨h.1, Kept.thenBelow (((Kept.refl _ _).alloc _).drew) h.2⟩
theorem hdr_of (W1 : World) (C : Array Value) : ∃ W5, W5 = W1.alloc (.cells C 45) ∧ At W1 W1.heap.size C W5 := ⟨_, rfl, At.mk0 (Kept.refl _ _) rfl⟩

set_option maxHeartbeats 2000000 in
theorem resp_op (F : Interp) (rb : Nat) (q o i0 i1 i2 i3 : Int) (X : Option Obj) (w : World) (hrb : rb < w.heap.size) (hF : F.answers w.tape) (hop : ¬ i3 = o)
    (H : ∀ W, Kept [] w W → Calls Ybaf.prog 18 #[.iface 41 (.pointer (some ⟨rb, 0, none⟩))] W fun e w' => e = .returned (.tuple #[.agg #[.int .i32 i0, .int .i32 i1, .int .i32 i2, .int .i32 i3], .nilIface]) ∧ w'.heap[rb]? = X ∧ Kept [rb] W w') :
    Calls Ybaf.prog 13 #[.iface 41 (.pointer (some ⟨rb, 0, none⟩)), .int .i32 q, .int .i32 o] w fun e w' => (∃ a, e = .returned (.tuple #[.agg #[.int .i32 i0, .int .i32 i1, .int .i32 i2, .int .i32 i3], .slice none 0 0, .iface 71 (.pointer (some a))])) ∧ w'.heap[rb]? = X ∧ Kept [rb] w w' := by
  have HR := hide' H
  clear H
  go_enter Ybaf.func13, Ybaf.ntmps13
  go_wp2_with fail
  obtain ⟨W, eW, hW⟩ := rw_of w
  rw [← eW]
  refine Calls.mono (HR.out W hW.kept) ?_
  rintro e W1 ⟨rfl, hX, hk1⟩
  have hs : W.heap.size = w.heap.size + 1 := hW.size
  have r1 := (hk1.block w.heap.size (by omega) (by simp; omega)).trans hW.res
  have hs1 : w.heap.size < W1.heap.size := lt_box r1
  have K1 := hide' (((Kept.refl [rb] w).then hW.kept (by simp)).then hk1 (by simp))
  have X1 := hide' hX
  have R1 := hide' r1
  clear eW hW hk1 r1 hX HR
  go_wp2_with fail
  obtain ⟨W5, eW5, hat⟩ := hdr_of W1 #[.int .i32 i0, .int .i32 i1, .int .i32 i2, .int .i32 i3]
  rw [← eW5]
  have hat' := hide' hat
  clear hat eW5
  obtain ⟨x, hx⟩ : ∃ x, x = W1.heap.size := ⟨_, rfl⟩
  rw [← hx] at hat' ⊢
  have K5 := hide' (K1.out.then hat'.out.kept (by simp))
  have B5 := hide' ((hat'.out.kept.block rb (by omega) (by simp)).trans X1.out)
  have r5 := (hat'.out.kept.block w.heap.size (by omega) (by simp)).trans R1.out
  clear hx
  have hs5 : w.heap.size < W5.heap.size := lt_box r5
  have hxs : x < W5.heap.size := lt_box hat'.out.row
  have hxw : ¬ x = w.heap.size := by have := hat'.out.low; omega
  have hxw' : ¬ w.heap.size = x := by have := hat'.out.low; omega
  have hxrb : ¬ x = rb := by have := hat'.out.low; omega
  have x0 : W5.cell? ⟨x, 0, none⟩ = some (.int .i32 i0) := (box_cell hat'.out.row 0).trans rfl
  have x1 : W5.cell? ⟨x, 1, none⟩ = some (.int .i32 i1) := (box_cell hat'.out.row 1).trans rfl
  have x2 : W5.cell? ⟨x, 2, none⟩ = some (.int .i32 i2) := (box_cell hat'.out.row 2).trans rfl
  have x3 : W5.cell? ⟨x, 3, none⟩ = some (.int .i32 i3) := (box_cell hat'.out.row 3).trans rfl
  have R5 := hide' r5
  have X5 := hide' hat'.out.row
  have hrb5 : rb < W5.heap.size := by omega
  clear hat' r5 R1 K1 X1
  have hF5 : F.answers W5.tape := by rw [K5.out.tape]; exact hF
  have HE := hide' (err1_at F W5 i3 o hF5)
  go_region_held3 (fun w' => w'.cell? ⟨x, 0, none⟩ = some (.int .i32 i0) ∧ w'.cell? ⟨x, 1, none⟩ = some (.int .i32 i1) ∧ w'.cell? ⟨x, 2, none⟩ = some (.int .i32 i2) ∧ w'.cell? ⟨x, 3, none⟩ = some (.int .i32 i3)) (go_keep)
    (first | (go_at_call 19; refine Calls.mono HE.out ?_; rintro e w2 ⟨⟨ea, rfl⟩, k2⟩; have y0 := (k2.cell (p := ⟨x, 0, none⟩) hxs (by simp)).trans x0; have y1 := (k2.cell (p := ⟨x, 1, none⟩) hxs (by simp)).trans x1; have y2 := (k2.cell (p := ⟨x, 2, none⟩) hxs (by simp)).trans x2; have y3 := (k2.cell (p := ⟨x, 3, none⟩) hxs (by simp)).trans x3; have r2 := hide' ((k2.block w.heap.size hs5 (by simp)).trans R5.out); have q0 := box_cell r2.out 0; have q1 := box_cell r2.out 1; have q2 := box_cell r2.out 2; have q3 := box_cell r2.out 3; have f := fun i => free_box (i := i) r2.out))
  all_goals
    go_wp2_with fail
    refine bodyPost_ret (v := .tuple #[.agg #[.int .i32 i0, .int .i32 i1, .int .i32 i2, .int .i32 i3], .slice none 0 0, .iface 71 (.pointer (some ea))]) (by simp [results, Ybaf.results13, go_sem, q0, q1, q2, q3]) rfl ⟨⟨ea, rfl⟩, ?_, set4_kept (K5.out.then k2 (by simp))⟩
    rw [set4_rb (by omega)]
    exact (k2.block rb hrb5 (by simp)).trans B5.out

set_option maxHeartbeats 2000000 in
theorem resp_req (F : Interp) (rb : Nat) (q o i0 i1 i2 i3 : Int) (X : Option Obj) (w : World) (hrb : rb < w.heap.size) (hF : F.answers w.tape) (hop : i3 = o) (hrq : ¬ i2 = q)
    (H : ∀ W, Kept [] w W → Calls Ybaf.prog 18 #[.iface 41 (.pointer (some ⟨rb, 0, none⟩))] W fun e w' => e = .returned (.tuple #[.agg #[.int .i32 i0, .int .i32 i1, .int .i32 i2, .int .i32 i3], .nilIface]) ∧ w'.heap[rb]? = X ∧ Kept [rb] W w') :
    Calls Ybaf.prog 13 #[.iface 41 (.pointer (some ⟨rb, 0, none⟩)), .int .i32 q, .int .i32 o] w fun e w' => (∃ a, e = .returned (.tuple #[.agg #[.int .i32 i0, .int .i32 i1, .int .i32 i2, .int .i32 i3], .slice none 0 0, .iface 71 (.pointer (some a))])) ∧ w'.heap[rb]? = X ∧ Kept [rb] w w' := by
  subst hop
  have HR := hide' H
  clear H
  go_enter Ybaf.func13, Ybaf.ntmps13
  go_wp2_with fail
  obtain ⟨W, eW, hW⟩ := rw_of w
  rw [← eW]
  refine Calls.mono (HR.out W hW.kept) ?_
  rintro e W1 ⟨rfl, hX, hk1⟩
  have hs : W.heap.size = w.heap.size + 1 := hW.size
  have r1 := (hk1.block w.heap.size (by omega) (by simp; omega)).trans hW.res
  have hs1 : w.heap.size < W1.heap.size := lt_box r1
  have K1 := hide' (((Kept.refl [rb] w).then hW.kept (by simp)).then hk1 (by simp))
  have X1 := hide' hX
  have R1 := hide' r1
  clear eW hW hk1 r1 hX HR
  go_wp2_with fail
  obtain ⟨W5, eW5, hat⟩ := hdr_of W1 #[.int .i32 i0, .int .i32 i1, .int .i32 i2, .int .i32 i3]
  rw [← eW5]
  have hat' := hide' hat
  clear hat eW5
  obtain ⟨x, hx⟩ : ∃ x, x = W1.heap.size := ⟨_, rfl⟩
  rw [← hx] at hat' ⊢
  have K5 := hide' (K1.out.then hat'.out.kept (by simp))
  have B5 := hide' ((hat'.out.kept.block rb (by omega) (by simp)).trans X1.out)
  have r5 := (hat'.out.kept.block w.heap.size (by omega) (by simp)).trans R1.out
  clear hx
  have hs5 : w.heap.size < W5.heap.size := lt_box r5
  have hxs : x < W5.heap.size := lt_box hat'.out.row
  have hxw : ¬ x = w.heap.size := by have := hat'.out.low; omega
  have hxw' : ¬ w.heap.size = x := by have := hat'.out.low; omega
  have hxrb : ¬ x = rb := by have := hat'.out.low; omega
  have x0 : W5.cell? ⟨x, 0, none⟩ = some (.int .i32 i0) := (box_cell hat'.out.row 0).trans rfl
  have x1 : W5.cell? ⟨x, 1, none⟩ = some (.int .i32 i1) := (box_cell hat'.out.row 1).trans rfl
  have x2 : W5.cell? ⟨x, 2, none⟩ = some (.int .i32 i2) := (box_cell hat'.out.row 2).trans rfl
  have x3 : W5.cell? ⟨x, 3, none⟩ = some (.int .i32 i3) := (box_cell hat'.out.row 3).trans rfl
  have R5 := hide' r5
  have X5 := hide' hat'.out.row
  have hrb5 : rb < W5.heap.size := by omega
  clear hat' r5 R1 K1 X1
  have hF5 : F.answers W5.tape := by rw [K5.out.tape]; exact hF
  have HE := hide' (err2_at F W5 i2 q hF5)
  go_region_held3 (fun w' => w'.cell? ⟨x, 0, none⟩ = some (.int .i32 i0) ∧ w'.cell? ⟨x, 1, none⟩ = some (.int .i32 i1) ∧ w'.cell? ⟨x, 2, none⟩ = some (.int .i32 i2) ∧ w'.cell? ⟨x, 3, none⟩ = some (.int .i32 i3)) (go_keep)
    (first | (go_at_call 19; refine Calls.mono HE.out ?_; rintro e w2 ⟨⟨ea, rfl⟩, k2⟩; have y0 := (k2.cell (p := ⟨x, 0, none⟩) hxs (by simp)).trans x0; have y1 := (k2.cell (p := ⟨x, 1, none⟩) hxs (by simp)).trans x1; have y2 := (k2.cell (p := ⟨x, 2, none⟩) hxs (by simp)).trans x2; have y3 := (k2.cell (p := ⟨x, 3, none⟩) hxs (by simp)).trans x3; have r2 := hide' ((k2.block w.heap.size hs5 (by simp)).trans R5.out); have q0 := box_cell r2.out 0; have q1 := box_cell r2.out 1; have q2 := box_cell r2.out 2; have q3 := box_cell r2.out 3; have f := fun i => free_box (i := i) r2.out))
  all_goals
    go_wp2_with fail
    refine bodyPost_ret (v := .tuple #[.agg #[.int .i32 i0, .int .i32 i1, .int .i32 i2, .int .i32 i3], .slice none 0 0, .iface 71 (.pointer (some ea))]) (by simp [results, Ybaf.results13, go_sem, q0, q1, q2, q3]) rfl ⟨⟨ea, rfl⟩, ?_, set4_kept (K5.out.then k2 (by simp))⟩
    rw [set4_rb (by omega)]
    exact (k2.block rb hrb5 (by simp)).trans B5.out

set_option maxHeartbeats 2000000 in
theorem resp_body_short (A : Addr → Prop) (rb : Nat) (q o i0 i1 i2 i3 : Int) (X : Option Obj) (w : World) (hrb : rb < w.heap.size) (hop : i3 = o) (hrq : i2 = q) (Y : Option Obj)
    (HB : ∀ W, Kept [rb] w W → W.heap[rb]? = X → Calls Ybaf.prog 20 #[.iface 41 (.pointer (some ⟨rb, 0, none⟩)), .agg #[.int .i32 i0, .int .i32 i1, .int .i32 i2, .int .i32 i3]] W fun e w' => (∃ a, e = .returned (.tuple #[.slice none 0 0, .iface 71 (.pointer (some a))]) ∧ A a) ∧ w'.heap[rb]? = Y ∧ Kept [rb] W w')
    (H : ∀ W, Kept [] w W → Calls Ybaf.prog 18 #[.iface 41 (.pointer (some ⟨rb, 0, none⟩))] W fun e w' => e = .returned (.tuple #[.agg #[.int .i32 i0, .int .i32 i1, .int .i32 i2, .int .i32 i3], .nilIface]) ∧ w'.heap[rb]? = X ∧ Kept [rb] W w') :
    Calls Ybaf.prog 13 #[.iface 41 (.pointer (some ⟨rb, 0, none⟩)), .int .i32 q, .int .i32 o] w fun e w' => (∃ a, e = .returned (.tuple #[.agg #[.int .i32 i0, .int .i32 i1, .int .i32 i2, .int .i32 i3], .slice none 0 0, .iface 71 (.pointer (some a))]) ∧ A a) ∧ w'.heap[rb]? = Y ∧ Kept [rb] w w' := by
  subst hop
  subst hrq
  have HR := hide' H
  clear H
  go_enter Ybaf.func13, Ybaf.ntmps13
  go_wp2_with fail
  obtain ⟨W, eW, hW⟩ := rw_of w
  rw [← eW]
  refine Calls.mono (HR.out W hW.kept) ?_
  rintro e W1 ⟨rfl, hX, hk1⟩
  have hs : W.heap.size = w.heap.size + 1 := hW.size
  have r1 := (hk1.block w.heap.size (by omega) (by simp; omega)).trans hW.res
  have hs1 : w.heap.size < W1.heap.size := lt_box r1
  have K1 := hide' (((Kept.refl [rb] w).then hW.kept (by simp)).then hk1 (by simp))
  have X1 := hide' hX
  have R1 := hide' r1
  clear eW hW hk1 r1 hX HR
  go_wp2_with fail
  obtain ⟨W5, eW5, hat⟩ := hdr_of W1 #[.int .i32 i0, .int .i32 i1, .int .i32 i2, .int .i32 i3]
  rw [← eW5]
  have hat' := hide' hat
  clear hat eW5
  obtain ⟨x, hx⟩ : ∃ x, x = W1.heap.size := ⟨_, rfl⟩
  rw [← hx] at hat' ⊢
  have K5 := hide' (K1.out.then hat'.out.kept (by simp))
  have B5 := hide' ((hat'.out.kept.block rb (by omega) (by simp)).trans X1.out)
  have r5 := (hat'.out.kept.block w.heap.size (by omega) (by simp)).trans R1.out
  clear hx
  have hs5 : w.heap.size < W5.heap.size := lt_box r5
  have hxs : x < W5.heap.size := lt_box hat'.out.row
  have hxw : ¬ x = w.heap.size := by have := hat'.out.low; omega
  have hxw' : ¬ w.heap.size = x := by have := hat'.out.low; omega
  have hxrb : ¬ x = rb := by have := hat'.out.low; omega
  have x0 : W5.cell? ⟨x, 0, none⟩ = some (.int .i32 i0) := (box_cell hat'.out.row 0).trans rfl
  have x1 : W5.cell? ⟨x, 1, none⟩ = some (.int .i32 i1) := (box_cell hat'.out.row 1).trans rfl
  have x2 : W5.cell? ⟨x, 2, none⟩ = some (.int .i32 i2) := (box_cell hat'.out.row 2).trans rfl
  have x3 : W5.cell? ⟨x, 3, none⟩ = some (.int .i32 i3) := (box_cell hat'.out.row 3).trans rfl
  have R5 := hide' r5
  have X5 := hide' hat'.out.row
  have hrb5 : rb < W5.heap.size := by omega
  clear hat' r5 R1 K1 X1
  have HB2 := hide' (HB W5 K5.out B5.out)
  clear HB
  go_wp2_with fail
  refine Calls.mono HB2.out ?_
  rintro e w2 ⟨⟨ea, rfl, ha⟩, hY, k2⟩
  have A1 := hide' ha
  clear ha
  have r2 := (k2.block w.heap.size hs5 (by simp; omega)).trans R5.out
  have x2r := (k2.block x hxs (by simp; omega)).trans X5.out
  have y0 := box_cell x2r 0
  have y1 := box_cell x2r 1
  have y2 := box_cell x2r 2
  have y3 := box_cell x2r 3
  have fx := fun i => free_box (i := i) x2r
  have q0 := box_cell r2 0
  have q1 := box_cell r2 1
  have q2 := box_cell r2 2
  have q3 := box_cell r2 3
  have f := fun i => free_box (i := i) r2
  have hs2 : w.heap.size < w2.heap.size := lt_box r2
  have K2 := hide' k2
  have YY := hide' hY
  clear k2 hY x0 x1 x2 x3 r2 x2r
  go_wp2_with fail
  refine bodyPost_ret (v := .tuple #[.agg #[.int .i32 i0, .int .i32 i1, .int .i32 i2, .int .i32 i3], .slice none 0 0, .iface 71 (.pointer (some ea))]) (by simp [results, Ybaf.results13, go_sem, q0, q1, q2, q3]) rfl ⟨⟨ea, rfl, A1.out⟩, ?_, set4_kept (K5.out.then K2.out (by simp))⟩
  rw [set4_rb (by omega)]
  exact YY.out

set_option maxHeartbeats 2000000 in
theorem resp_body_full (rb : Nat) (q o i0 i1 i2 i3 : Int) (X : Option Obj) (w : World) (hrb : rb < w.heap.size) (hop : i3 = o) (hrq : i2 = q) (N : Nat) (P : Nat → List Value → Prop) (Y : Option Obj)
    (HB : ∀ W, Kept [rb] w W → W.heap[rb]? = X → Calls Ybaf.prog 20 #[.iface 41 (.pointer (some ⟨rb, 0, none⟩)), .agg #[.int .i32 i0, .int .i32 i1, .int .i32 i2, .int .i32 i3]] W fun e w' => (∃ g cap cs, e = .returned (.tuple #[.slice (some ⟨g, 0, none⟩) N cap, .nilIface]) ∧ w'.heap[g]? = some (.cells cs 5 (0, 0)) ∧ P cap cs.toList) ∧ w'.heap[rb]? = Y ∧ Kept [rb] W w')
    (H : ∀ W, Kept [] w W → Calls Ybaf.prog 18 #[.iface 41 (.pointer (some ⟨rb, 0, none⟩))] W fun e w' => e = .returned (.tuple #[.agg #[.int .i32 i0, .int .i32 i1, .int .i32 i2, .int .i32 i3], .nilIface]) ∧ w'.heap[rb]? = X ∧ Kept [rb] W w') :
    Calls Ybaf.prog 13 #[.iface 41 (.pointer (some ⟨rb, 0, none⟩)), .int .i32 q, .int .i32 o] w fun e w' => (∃ g cap cs, e = .returned (.tuple #[.agg #[.int .i32 i0, .int .i32 i1, .int .i32 i2, .int .i32 i3], .slice (some ⟨g, 0, none⟩) N cap, .nilIface]) ∧ w'.heap[g]? = some (.cells cs 5 (0, 0)) ∧ P cap cs.toList) ∧ w'.heap[rb]? = Y ∧ Kept [rb] w w' := by
  subst hop
  subst hrq
  have HR := hide' H
  clear H
  go_enter Ybaf.func13, Ybaf.ntmps13
  go_wp2_with fail
  obtain ⟨W, eW, hW⟩ := rw_of w
  rw [← eW]
  refine Calls.mono (HR.out W hW.kept) ?_
  rintro e W1 ⟨rfl, hX, hk1⟩
  have hs : W.heap.size = w.heap.size + 1 := hW.size
  have r1 := (hk1.block w.heap.size (by omega) (by simp; omega)).trans hW.res
  have hs1 : w.heap.size < W1.heap.size := lt_box r1
  have K1 := hide' (((Kept.refl [rb] w).then hW.kept (by simp)).then hk1 (by simp))
  have X1 := hide' hX
  have R1 := hide' r1
  clear eW hW hk1 r1 hX HR
  go_wp2_with fail
  obtain ⟨W5, eW5, hat⟩ := hdr_of W1 #[.int .i32 i0, .int .i32 i1, .int .i32 i2, .int .i32 i3]
  rw [← eW5]
  have hat' := hide' hat
  clear hat eW5
  obtain ⟨x, hx⟩ : ∃ x, x = W1.heap.size := ⟨_, rfl⟩
  rw [← hx] at hat' ⊢
  have K5 := hide' (K1.out.then hat'.out.kept (by simp))
  have B5 := hide' ((hat'.out.kept.block rb (by omega) (by simp)).trans X1.out)
  have r5 := (hat'.out.kept.block w.heap.size (by omega) (by simp)).trans R1.out
  clear hx
  have hs5 : w.heap.size < W5.heap.size := lt_box r5
  have hxs : x < W5.heap.size := lt_box hat'.out.row
  have hxw : ¬ x = w.heap.size := by have := hat'.out.low; omega
  have hxw' : ¬ w.heap.size = x := by have := hat'.out.low; omega
  have hxrb : ¬ x = rb := by have := hat'.out.low; omega
  have x0 : W5.cell? ⟨x, 0, none⟩ = some (.int .i32 i0) := (box_cell hat'.out.row 0).trans rfl
  have x1 : W5.cell? ⟨x, 1, none⟩ = some (.int .i32 i1) := (box_cell hat'.out.row 1).trans rfl
  have x2 : W5.cell? ⟨x, 2, none⟩ = some (.int .i32 i2) := (box_cell hat'.out.row 2).trans rfl
  have x3 : W5.cell? ⟨x, 3, none⟩ = some (.int .i32 i3) := (box_cell hat'.out.row 3).trans rfl
  have R5 := hide' r5
  have X5 := hide' hat'.out.row
  have hrb5 : rb < W5.heap.size := by omega
  clear hat' r5 R1 K1 X1
  have HB2 := hide' (HB W5 K5.out B5.out)
  clear HB
  go_wp2_with fail
  refine Calls.mono HB2.out ?_
  rintro e w2 ⟨⟨g, cap, cs, rfl, hg, hp⟩, hY, k2⟩
  have hgw : g ≠ w.heap.size := by
    rintro rfl
    have := ((k2.block w.heap.size hs5 (by simp; omega)).trans R5.out).symm.trans hg
    simp at this
  have G1 := hide' hg
  have P1 := hide' hp
  clear hg hp
  have r2 := (k2.block w.heap.size hs5 (by simp; omega)).trans R5.out
  have x2r := (k2.block x hxs (by simp; omega)).trans X5.out
  have y0 := box_cell x2r 0
  have y1 := box_cell x2r 1
  have y2 := box_cell x2r 2
  have y3 := box_cell x2r 3
  have fx := fun i => free_box (i := i) x2r
  have q0 := box_cell r2 0
  have q1 := box_cell r2 1
  have q2 := box_cell r2 2
  have q3 := box_cell r2 3
  have f := fun i => free_box (i := i) r2
  have hs2 : w.heap.size < w2.heap.size := lt_box r2
  have K2 := hide' k2
  have YY := hide' hY
  clear k2 hY x0 x1 x2 x3 r2 x2r
  go_wp2_with fail
  refine bodyPost_ret (v := .tuple #[.agg #[.int .i32 i0, .int .i32 i1, .int .i32 i2, .int .i32 i3], .slice (some ⟨g, 0, none⟩) N cap, .nilIface]) (by simp [results, Ybaf.results13, go_sem, q0, q1, q2, q3]) rfl ⟨⟨g, cap, cs, rfl, ?_, P1.out⟩, ?_, set4_kept (K5.out.then K2.out (by simp))⟩
  · rw [set4_rb hgw]
    exact G1.out
  · rw [set4_rb (by omega)]
    exact YY.out

end Go.Proofs.YbulkdswFmt
