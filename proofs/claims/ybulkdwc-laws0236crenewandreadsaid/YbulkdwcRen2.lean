/-
  Seat b0236a: renew (20).
-/
import Derived.Test.YbulkdwcRenew
namespace Go.Proofs.Ybulkdwc
open Go.RowKit

theorem store_float {w : World} {p : Addr} {b : Nat} {u : Value} (hc : w.cell? p = some u) (hf : w.frozen? p = false) : (store p (.float .f64 b)).run Yba.prog w = .ok () (w.setCell p (.float .f64 b)) := by
  rw [run_store Yba.prog w _ _ _ rfl, hc]
  simp [hf]

set_option maxRecDepth 100000 in
set_option maxHeartbeats 2000000 in
theorem renew_skip (gb lw sb : Nat) (rep : Bool) (last now ex : Int) (wt : Nat) (ad : ByteArray) (gone : Bool) (w : World) (hl : w.heap[lw]? = some (.cells (lwCells rep last wt ad gone) 78 (0, 0))) (hs : w.heap[sb]? = some (.cells (seCells ex) 57 (0, 0)))
    (h1 : -4000000000000 ≤ last) (h2 : last ≤ 4000000000000) (h3 : -4000000000000 ≤ now) (h4 : now ≤ 4000000000000) (hno : (!gone && (rep && decide (ex < now - last))) = false) :
    Calls Yba.prog 20 #[.pointer (some ⟨gb, 0, none⟩), .pointer (some ⟨lw, 0, none⟩), .agg (tmCells now), .pointer (some ⟨sb, 0, none⟩)] w fun e w' => e = .returned (.tuple #[]) ∧ Kept [] w w' := by
  obtain ⟨W, eW, hW⟩ : ∃ W, W = w.alloc (.cells (tmCells now) 46) ∧ Kept [] w W := ⟨_, rfl, (Kept.refl _ _).alloc _⟩
  have hT : W.heap[w.heap.size]? = some (.cells (tmCells now) 46 (0, 0)) := by rw [eW]; exact heap_alloc_new _ _
  obtain ⟨tb, htb⟩ : ∃ tb, w.heap.size = tb := ⟨_, rfl⟩
  have hl' := (hW.block lw (lt_box hl) (by simp)).trans hl
  have hs' := (hW.block sb (lt_box hs) (by simp)).trans hs
  rw [htb] at hT
  have l11 : W.cell? ⟨lw, 11, none⟩ = some (.bool gone) := (box_cell hl' 11).trans rfl
  have t0 : W.cell? ⟨tb, 0, none⟩ = some (.int .u64 (now % 1000000000)) := (box_cell hT 0).trans rfl
  have t1 : W.cell? ⟨tb, 1, none⟩ = some (.int .i64 (now / 1000000000)) := (box_cell hT 1).trans rfl
  have t2 : W.cell? ⟨tb, 2, none⟩ = some (.pointer none) := (box_cell hT 2).trans rfl
  have HX := expired_any lw sb rep last now ex wt ad gone W hl' hs' h1 h2 h3 h4
  have HK := hide' hW
  have HEW := hide' eW
  clear hl hs hl' hs' hT hW
  cases gone
  · have hno2 : (rep && decide (ex < now - last)) = false := by simpa using hno
    rw [hno2] at HX
    have HX2 := hide' (show Calls Yba.prog 24 #[.pointer (some ⟨lw, 0, none⟩), .agg #[.int .u64 (now % 1000000000), .int .i64 (now / 1000000000), .pointer none], .pointer (some ⟨sb, 0, none⟩)] W fun e w' => e = .returned (.bool false) ∧ Kept [] W w' from HX)
    clear HX hno hno2
    go_enter Yba.func20, Yba.ntmps20
    go_upto_region 1 with fail
    rw [← HEW.out]
    clear eW htb HEW
    go_wp2_with fail
    refine Calls.mono HX2.out ?_
    rintro e w2 ⟨rfl, k2⟩
    have K2 := hide' (HK.out.then k2 (by simp))
    clear k2
    go_wp2_with fail
    (try simp only [Exit.inBlock, Exit.then])
    refine bodyPost_ret (results_none rfl _ _ _) rfl ?_
    exact ⟨rfl, K2.out⟩
  · clear HX hno
    go_enter Yba.func20, Yba.ntmps20
    go_upto_region 1 with fail
    rw [← HEW.out]
    clear eW htb HEW
    go_wp2_with fail
    (try simp only [Exit.inBlock, Exit.then])
    refine bodyPost_ret (results_none rfl _ _ _) rfl ?_
    exact ⟨rfl, HK.out⟩

/-- as 'Fr', one block more let go -/
structure Fr2 (B hb lw : Nat) (w w' : World) : Prop where
  os : w'.os = w.os
  tape : w'.tape = w.tape
  output : w'.output = w.output
  size : w.heap.size ≤ w'.heap.size
  block : ∀ k, k < w.heap.size → k ≠ hb → k ≠ lw → (k < B ∨ ∃ cs t fr, w.heap[k]? = some (.cells cs t fr) ∧ t ≠ 81) → w'.heap[k]? = w.heap[k]?
theorem Fr.to2 {B hb lw : Nat} {a b : World} (h : Fr B hb a b) : Fr2 B hb lw a b := ⟨h.os, h.tape, h.output, h.size, fun k hk hn _ hc => h.block k hk hn hc⟩
theorem Fr2.trans {B hb lw : Nat} {a b c : World} (h : Fr2 B hb lw a b) (k : Fr2 B hb lw b c) : Fr2 B hb lw a c :=
  ⟨k.os.trans h.os, k.tape.trans h.tape, k.output.trans h.output, Nat.le_trans h.size k.size, fun i hi hn hm hc => by
    have h1 := h.block i hi hn hm hc
    rw [← h1]
    refine k.block i (Nat.lt_of_lt_of_le hi h.size) hn hm ?_
    rcases hc with hc | ⟨cs, t, fr, hc, ht⟩
    · exact .inl hc
    · exact .inr ⟨cs, t, fr, h1.trans hc, ht⟩⟩
theorem Fr2.setCell {B hb lw : Nat} {a b : World} (h : Fr2 B hb lw a b) (i : Nat) (v : Value) : Fr2 B hb lw a (b.setCell ⟨lw, i, none⟩ v) :=
  ⟨h.os, h.tape, h.output, by simp [World.setCell]; exact h.size, fun k hk hn hm hc => (Below.heap_setCell _ _ _ _ hm).trans (h.block k hk hn hm hc)⟩
/-- a store into a load weight leaves the hooks alone -/
theorem HK.setLw {B : Nat} {wx : World} {hb lw i : Nat} {v : Value} {ao : Option Addr} {an ac k : Nat} {L : List En} {at_ : Int} {C : Array Value} (h : HK B wx hb ao an ac k L at_) (hl : wx.heap[lw]? = some (.cells C 78 (0, 0))) : HK B (wx.setCell ⟨lw, i, none⟩ v) hb ao an ac k L at_ := by
  obtain ⟨lv, h1, own⟩ := h
  have hne : hb ≠ lw := by
    rintro rfl
    rw [h1] at hl
    simp at hl
  refine ⟨lv, (Below.heap_setCell _ _ _ _ hne).trans h1, own.1, ?_⟩
  rcases own.2 with e | ⟨g, cap, cur, e, hB, hg, r⟩
  · exact .inl e
  · have hne2 : g ≠ lw := by
      rintro rfl
      rw [hg] at hl
      simp at hl
    exact .inr ⟨g, cap, cur, e, hB, (Below.heap_setCell _ _ _ _ hne2).trans hg, r⟩

theorem HK.ne {B : Nat} {wx : World} {hb x : Nat} {ao : Option Addr} {an ac k : Nat} {L : List En} {at_ : Int} {C : Array Value} {t : TypeId} (h : HK B wx hb ao an ac k L at_) (hl : wx.heap[x]? = some (.cells C t (0, 0))) (ht : t ≠ 61) : x ≠ hb := by
  obtain ⟨lv, h1, _⟩ := h
  rintro rfl
  rw [h1] at hl
  simp at hl
  exact ht hl.2.symm
theorem AnsAt.setLw {B lw i : Nat} {v : Value} {w : World} {ao : Option Addr} {an : Nat} {xs : Nat → Nat} (h : AnsAt B w ao an xs) (hl : B ≤ lw) : AnsAt B (w.setCell ⟨lw, i, none⟩ v) ao an xs := by
  intro hp
  obtain ⟨b, off, e, h1, h2, h3⟩ := h hp
  refine ⟨b, off, e, h1, by simp [World.setCell]; exact h2, fun j hj => ?_⟩
  rw [World.cell?_of_block (Below.heap_setCell w ⟨lw, i, none⟩ v b (by show b ≠ lw; omega))]
  exact h3 j hj

set_option maxRecDepth 100000 in
set_option maxHeartbeats 2000000 in
theorem renew_do (B gb hb lw sb : Nat) (mu : Int) (ao : Option Addr) (an ac k : Nat) (L : List En) (at_ : Int) (xs : Nat → Nat) (last now ex : Int) (wt : Nat) (ad : ByteArray) (w : World)
    (hg : w.heap[gb]? = some (.cells #[.int .i32 mu, .int .u32 0, .iface 58 (.pointer (some ⟨hb, 0, none⟩))] 72 (0, 0)))
    (hl : w.heap[lw]? = some (.cells (lwCells true last wt ad false) 78 (0, 0))) (hs : w.heap[sb]? = some (.cells (seCells ex) 57 (0, 0))) (h : HK B w hb ao an ac k L at_) (ha : AnsAt B w ao an xs)
    (hbB : B ≤ hb) (hB : B ≤ w.heap.size) (hL : L.length ≤ 4000) (hk5 : k ≤ 4000) (han : an ≤ 1024) (hlB : B ≤ lw)
    (h1 : -4000000000000 ≤ last) (h2 : last ≤ 4000000000000) (h3 : -4000000000000 ≤ now) (h4 : now ≤ 4000000000000) (hex : ex < now - last) :
    Calls Yba.prog 20 #[.pointer (some ⟨gb, 0, none⟩), .pointer (some ⟨lw, 0, none⟩), .agg (tmCells now), .pointer (some ⟨sb, 0, none⟩)] w fun e w' => e = .returned (.tuple #[]) ∧
      w'.heap[lw]? = some (.cells (lwCells false last (addW xs an k) ad false) 78 (0, 0)) ∧ HK B w' hb ao an ac (k + 1) (L ++ [(82, ad), (65, ad)]) at_ ∧ Fr2 B hb lw w w' := by
  obtain ⟨W, eW, hW⟩ : ∃ W, W = w.alloc (.cells (tmCells now) 46) ∧ Kept [] w W := ⟨_, rfl, (Kept.refl _ _).alloc _⟩
  have hT : W.heap[w.heap.size]? = some (.cells (tmCells now) 46 (0, 0)) := by rw [eW]; exact heap_alloc_new _ _
  obtain ⟨tb, htb⟩ : ∃ tb, w.heap.size = tb := ⟨_, rfl⟩
  have hl' := (hW.block lw (lt_box hl) (by simp)).trans hl
  have hs' := (hW.block sb (lt_box hs) (by simp)).trans hs
  have hg' := (hW.block gb (lt_box hg) (by simp)).trans hg
  rw [htb] at hT
  have l11 : W.cell? ⟨lw, 11, none⟩ = some (.bool false) := (box_cell hl' 11).trans rfl
  have t0 : W.cell? ⟨tb, 0, none⟩ = some (.int .u64 (now % 1000000000)) := (box_cell hT 0).trans rfl
  have t1 : W.cell? ⟨tb, 1, none⟩ = some (.int .i64 (now / 1000000000)) := (box_cell hT 1).trans rfl
  have t2 : W.cell? ⟨tb, 2, none⟩ = some (.pointer none) := (box_cell hT 2).trans rfl
  have hx := expired_any lw sb true last now ex wt ad false W hl' hs' h1 h2 h3 h4
  rw [decide_eq_true hex] at hx
  have HX := hide' (show Calls Yba.prog 24 #[.pointer (some ⟨lw, 0, none⟩), .agg #[.int .u64 (now % 1000000000), .int .i64 (now / 1000000000), .pointer none], .pointer (some ⟨sb, 0, none⟩)] W fun e w' => e = .returned (.bool true) ∧ Kept [] W w' from hx)
  have HW := hide' hW
  have HEW := hide' eW
  have HL := hide' hl'
  have HG := hide' hg'
  have HH := hide' (h.then hW)
  have HA := hide' (ha.then (Fr.of_kept (hb := hb) hW) hbB)
  clear hl hs hg hl' hs' hg' hT hW hx h ha
  go_enter Yba.func20, Yba.ntmps20
  go_upto_region 1 with fail
  rw [← HEW.out]
  clear eW htb HEW
  go_wp2_with fail
  refine Calls.mono HX.out ?_
  rintro e w2 ⟨rfl, k2⟩
  have kk := HW.out.then k2 (by simp)
  have hl2 := (k2.block lw (lt_box HL.out) (by simp)).trans HL.out
  have hg2 := (k2.block gb (lt_box HG.out) (by simp)).trans HG.out
  have hh2 := HH.out.then k2
  have ha2 := HA.out.then (Fr.of_kept (hb := hb) k2) hbB
  have m2 : w2.cell? ⟨lw, 2, none⟩ = some (.bool true) := (box_cell hl2 2).trans rfl
  have fl := fun i => free_box (i := i) hl2
  have K2 := hide' kk
  have HL2 := hide' hl2
  have HG2 := hide' hg2
  have HH2 := hide' hh2
  have HA2 := hide' ha2
  have ll := lt_box hl2
  clear HX HL HG HH HA HW k2 kk hl2 hg2 hh2 ha2 t0 t1 t2 l11
  go_upto_region 3 with fail
  obtain ⟨W3, eW3⟩ : ∃ W3, W3 = w2.setCell ⟨lw, 2, none⟩ (.bool false) := ⟨_, rfl⟩
  rw [← eW3]
  have hgl : gb ≠ lw := by
    rintro rfl
    have := HG2.out.symm.trans HL2.out
    simp at this
  have hl3 : W3.heap[lw]? = some (.cells (lwCells false last wt ad false) 78 (0, 0)) := by rw [eW3, set_block HL2.out]; rfl
  have hg3 : W3.heap[gb]? = some (.cells #[.int .i32 mu, .int .u32 0, .iface 58 (.pointer (some ⟨hb, 0, none⟩))] 72 (0, 0)) := by rw [eW3, Below.heap_setCell _ _ _ _ hgl]; exact HG2.out
  have hh3 : HK B W3 hb ao an ac k L at_ := by rw [eW3]; exact HH2.out.setLw HL2.out
  have ha3 : AnsAt B W3 ao an xs := by rw [eW3]; exact HA2.out.setLw hlB
  have hf3 : Fr2 B hb lw w W3 := by rw [eW3]; exact ((Fr.of_kept K2.out).to2).setCell 2 _
  have hB3 : B ≤ W3.heap.size := Nat.le_trans hB hf3.size
  have n10 : W3.cell? ⟨lw, 10, none⟩ = some (.string ad) := (box_cell hl3 10).trans rfl
  have n2 : W3.cell? ⟨gb, 2, none⟩ = some (.iface 58 (.pointer (some ⟨hb, 0, none⟩))) := (box_cell hg3 2).trans rfl
  have HL3 := hide' hl3
  have HG3 := hide' hg3
  have HF3 := hide' hf3
  have HA3 := hide' ha3
  have hlh := hh3.ne hl3 (by decide)
  have hgh := hh3.ne hg3 (by decide)
  have HRM := hide' (fun (W : World) (kw : Kept [] W3 W) => remove_any B hb ao an ac k L at_ ad W (hh3.then kw) (Nat.le_trans hB3 kw.size) (by omega))
  clear eW3 hl3 hg3 hh3 ha3 hf3 m2 fl K2 HL2 HG2 HH2 HA2 ll
  go_region_held3 (fun w' => w'.cell? ⟨lw, 10, none⟩ = some (.string ad) ∧ w'.cell? ⟨gb, 2, none⟩ = some (.iface 58 (.pointer (some ⟨hb, 0, none⟩)))) (go_keep)
    (first | (go_at_call 70; refine (HRM.out _ ((Kept.refl [] W3).drew)).mono ?_; rintro e w4 ⟨rfl, hk4, fr4⟩; have fr5 := (Fr.of_kept (B := B) (hb := hb) ((Kept.refl [] W3).drew)).trans fr4; have p1 := (fr5.block lw (lt_box HL3.out) hlh (.inr ⟨_, 78, _, HL3.out, by decide⟩)).trans HL3.out; have p2 := (fr5.block gb (lt_box HG3.out) hgh (.inr ⟨_, 72, _, HG3.out, by decide⟩)).trans HG3.out; have n10' : w4.cell? ⟨lw, 10, none⟩ = some (.string ad) := (box_cell p1 10).trans rfl; have n2' : w4.cell? ⟨gb, 2, none⟩ = some (.iface 58 (.pointer (some ⟨hb, 0, none⟩))) := (box_cell p2 2).trans rfl))
  have HL4 := hide' p1
  have HK4 := hide' hk4
  have HF4 := hide' (HF3.out.trans fr5.to2)
  have HAD := hide' (wadd_any B gb hb mu ao an ac k (L ++ [(82, ad)]) at_ xs ad w4 p2 hk4 (HA3.out.then fr5 hbB) hbB (Nat.le_trans hB3 fr5.size) (by simp; omega) (by omega) han)
  clear p1 p2 hk4 fr4 fr5 HRM HF3 HA3 HL3 HG3 n2' n10 n2
  go_wp2_with fail
  refine Calls.mono HAD.out ?_
  rintro e w5 ⟨rfl, hk5', fr5⟩
  have hl5 := (fr5.block lw (lt_box HL4.out) hlh (.inr ⟨_, 78, _, HL4.out, by decide⟩)).trans HL4.out
  have d9 : w5.cell? ⟨lw, 9, none⟩ = some (.float .f64 wt) := (box_cell hl5 9).trans rfl
  have f9 := fun i => free_box (i := i) hl5
  have HL5 := hide' hl5
  have HK5 := hide' hk5'
  have HF5 := hide' (HF4.out.trans fr5.to2)
  clear hl5 hk5' fr5 HAD HF4 HK4 HL4 n10'
  have hst := store_float (b := addW xs an k) d9 (f9 9)
  go_wp2_with fail
  go_end0
  refine ⟨rfl, ?_, ?_, HF5.out.setCell 9 _⟩
  · rw [set_block HL5.out]
    rfl
  · have := HK5.out.setLw (i := 9) (v := .float .f64 (addW xs an k)) HL5.out
    simpa using this
end Go.Proofs.Ybulkdwc
