/-
  Seat b0236a: the law's hooks: Remove (70), Add (68), Rebuild (69).
-/
import Derived.Test.YbulkdwcSub
namespace Go.Proofs.Ybulkdwc
open Go.RowKit

/-- what the hooks leave alone: all but their own block and the log's rows (of type 81, from B on) -/
structure Fr (B hb : Nat) (w w' : World) : Prop where
  os : w'.os = w.os
  tape : w'.tape = w.tape
  output : w'.output = w.output
  size : w.heap.size ≤ w'.heap.size
  block : ∀ k, k < w.heap.size → k ≠ hb → (k < B ∨ ∃ cs t fr, w.heap[k]? = some (.cells cs t fr) ∧ t ≠ 81) → w'.heap[k]? = w.heap[k]?
theorem Fr.refl (B hb : Nat) (w : World) : Fr B hb w w := ⟨rfl, rfl, rfl, Nat.le_refl _, fun _ _ _ _ => rfl⟩
theorem Fr.trans {B hb : Nat} {a b c : World} (h : Fr B hb a b) (k : Fr B hb b c) : Fr B hb a c :=
  ⟨k.os.trans h.os, k.tape.trans h.tape, k.output.trans h.output, Nat.le_trans h.size k.size, fun i hi hn hc => by
    have h1 := h.block i hi hn hc
    rw [← h1]
    refine k.block i (Nat.lt_of_lt_of_le hi h.size) hn ?_
    rcases hc with hc | ⟨cs, t, fr, hc, ht⟩
    · exact .inl hc
    · exact .inr ⟨cs, t, fr, h1.trans hc, ht⟩⟩
theorem Fr.of_kept {B hb : Nat} {a b : World} (h : Kept [] a b) : Fr B hb a b := ⟨h.os, h.tape, h.output, h.size, fun i hi _ _ => h.block i hi (by simp)⟩
theorem Fr.setCell {B hb : Nat} {a b : World} (h : Fr B hb a b) (i : Nat) (v : Value) : Fr B hb a (b.setCell ⟨hb, i, none⟩ v) :=
  ⟨h.os, h.tape, h.output, by simp [World.setCell]; exact h.size, fun k hk hn hc => (Below.heap_setCell _ _ _ _ hn).trans (h.block k hk hn hc)⟩
theorem Fr.of_grown {B hb : Nat} {a b : World} {v : Value} {n : Nat} {xs : List Value} (own : a.ownsRow B 81 2 v n xs) (h : a.grownBy b v.ownBlock) : Fr B hb a b := by
  refine ⟨h.os, h.tape, h.output, h.size, fun k hk hn hc => h.block k hk ?_⟩
  intro e
  rcases own.2 with ⟨rfl, _⟩ | ⟨g, cap, cur, rfl, hB, hg, _⟩
  · cases e
  · have e' : k = g := by simpa [Value.ownBlock] using e
    subst e'
    rcases hc with hc | ⟨cs, t, fr, hc, ht⟩
    · omega
    · rw [hg] at hc
      cases hc
      exact ht rfl

abbrev En := Int × ByteArray
def encEn (e : En) : List Value := [.int .u8 e.1, .string e.2]
/-- the hooks' state: their six cells; the log's row -/
def HK (B : Nat) (wx : World) (hb : Nat) (ao : Option Addr) (an ac : Nat) (k : Nat) (L : List En) (at_ : Int) : Prop :=
  ∃ lv, wx.heap[hb]? = some (.cells #[.slice ao an ac, .int .i64 (k : Int), lv, .int .u64 (at_ % 1000000000), .int .i64 (at_ / 1000000000), .pointer none] 61 (0, 0)) ∧ wx.ownsRow B 81 2 lv L.length (L.flatMap encEn)
theorem HK.then {B : Nat} {wx w' : World} {hb : Nat} {ao : Option Addr} {an ac k : Nat} {L : List En} {at_ : Int} (h : HK B wx hb ao an ac k L at_) (kp : Kept [] wx w') : HK B w' hb ao an ac k L at_ := by
  obtain ⟨lv, h1, h2⟩ := h
  refine ⟨lv, (kp.block hb (lt_box h1) (by simp)).trans h1, h2.1, ?_⟩
  rcases h2.2 with e | ⟨g, cap, cur, e, hB, hg, r⟩
  · exact .inl e
  · exact .inr ⟨g, cap, cur, e, hB, (kp.block _ (lt_box hg) (by simp)).trans hg, r⟩

theorem info81 : (Yba.prog.info? 81).map (fun i => (i.zero, i.size, i.bytes)) = some (some (.agg #[.int .u8 0, .string ⟨#[]⟩]), 2, 24) := by kernel_rfl
theorem flat_len (L : List En) : (L.flatMap encEn).length = L.length * 2 := by
  induction L with
  | nil => rfl
  | cons x L ih => simp [List.flatMap_cons, ih, encEn]; omega

/-- the hooks' own block is no row of the log's -/
theorem hk_other {B : Nat} {w : World} {hb : Nat} {C : Array Value} {lv : Value} {n : Nat} {xs : List Value} (h1 : w.heap[hb]? = some (.cells C 61 (0, 0))) (own : w.ownsRow B 81 2 lv n xs) : some hb ≠ lv.ownBlock := by
  intro e
  rcases own.2 with ⟨rfl, _⟩ | ⟨g, cap, cur, rfl, _, hg, _⟩
  · cases e
  · have e' : hb = g := by simpa [Value.ownBlock] using e
    subst e'
    rw [hg] at h1
    simp at h1
theorem hk_keep {B : Nat} {w w1 : World} {hb : Nat} {C : Array Value} {lv : Value} {n : Nat} {xs : List Value} {X : Obj} (h1 : w.heap[hb]? = some (.cells C 61 (0, 0))) (own : w.ownsRow B 81 2 lv n xs) (hg : (w.alloc X).grownBy w1 lv.ownBlock) :
    w1.heap[hb]? = some (.cells C 61 (0, 0)) :=
  ((hg.block hb (by simp; have := lt_box h1; omega) (hk_other h1 own)).trans (Below.heap_alloc _ _ _ (lt_box h1))).trans h1
theorem hk_push {B : Nat} {w w1 : World} {hb : Nat} {ao : Option Addr} {an ac k : Nat} {lv : Value} {L : List En} {at_ : Int} {X : Obj} {g cap : Nat} {e : En}
    (h1 : w.heap[hb]? = some (.cells #[.slice ao an ac, .int .i64 (k : Int), lv, .int .u64 (at_ % 1000000000), .int .i64 (at_ / 1000000000), .pointer none] 61 (0, 0))) (own : w.ownsRow B 81 2 lv L.length (L.flatMap encEn))
    (hown : w1.ownsRow B 81 2 (.slice (some ⟨g, 0, none⟩) (L.length + 1) cap) (L.length + 1) (L.flatMap encEn ++ encEn e)) (hg : (w.alloc X).grownBy w1 lv.ownBlock) :
    HK B (w1.setCell ⟨hb, 2, none⟩ (.slice (some ⟨g, 0, none⟩) (L.length + 1) cap)) hb ao an ac k (L ++ [e]) at_ ∧ Fr B hb w (w1.setCell ⟨hb, 2, none⟩ (.slice (some ⟨g, 0, none⟩) (L.length + 1) cap)) := by
  have hk := hk_keep h1 own hg
  refine ⟨⟨_, set_block hk, ?_⟩, ?_⟩
  · have hne : g ≠ hb := by
      rintro rfl
      exact hk_other hk hown rfl
    rcases hown.2 with ⟨e, _⟩ | ⟨g', cap', cur, e, hB, hgg, r⟩
    · cases e
    · cases e
      refine ⟨by rw [flat_len], .inr ⟨g, cap, cur, by simp, hB, (Below.heap_setCell _ _ _ _ hne).trans hgg, ?_⟩⟩
      simpa [List.flatMap_append] using r
  · exact ((Fr.of_kept ((Kept.refl [] w).alloc X)).trans (Fr.of_grown (own.alloc X) hg)).setCell 2 _

set_option maxRecDepth 100000 in
set_option maxHeartbeats 1000000 in
theorem remove_any (B hb : Nat) (ao : Option Addr) (an ac k : Nat) (L : List En) (at_ : Int) (s : ByteArray) (w : World) (h : HK B w hb ao an ac k L at_) (hB : B ≤ w.heap.size) (hL : L.length ≤ 5000) :
    Calls Yba.prog 70 #[.pointer (some ⟨hb, 0, none⟩), .string s] w fun e w' => e = .returned (.tuple #[]) ∧ HK B w' hb ao an ac k (L ++ [(82, s)]) at_ ∧ Fr B hb w w' := by
  obtain ⟨lv, h1, own⟩ := h
  obtain ⟨ii, hi, hz0, hz1, hz2⟩ := info_parts info81
  have c2 : w.cell? ⟨hb, 2, none⟩ = some lv := (box_cell h1 2).trans rfl
  have f := fun i => free_box (i := i) h1
  have H1 := hide' h1
  have OW := hide' own
  have lb := lt_box h1
  clear h1 own
  go_enter Yba.func70, Yba.ntmps70
  go_wp2_with (at_builtin; refine wpList_append_lies _ rfl _ _ 59 rfl B 81 ii _ 2 24 Yba.underlying59 hi hz0 hz1 hz2 rfl (by omega) lv L.length (L.flatMap encEn) rfl (OW.out.alloc _) ⟨w.heap.size, 0, none⟩ 1 1 (encEn (82, s)) rfl rfl ?n1 ?n2 (by omega) ?n3 ?n4 ?n5 _ rfl ?_)
  case n1 => exact World.news_of_block (heap_alloc_new w (.cells (encEn (82, s)).toArray 81))
  case n2 => intro u hu; simp [encEn] at hu; rcases hu with rfl | rfl <;> rfl
  case n3 => simp [maxLen]; omega
  case n4 => omega
  case n5 => simp; omega
  intro g cap w1 hown hgrow _ hlt
  have HP := hide' (hk_push (e := (82, s)) H1.out OW.out hown hgrow)
  have hk := hk_keep H1.out OW.out hgrow
  have d2 : w1.cell? ⟨hb, 2, none⟩ = some lv := (box_cell hk 2).trans rfl
  have f2 := fun i => free_box (i := i) hk
  clear c2 f hown hgrow hk OW H1
  go_wp2_with fail
  go_end0
  exact ⟨rfl, HP.out.1, HP.out.2⟩

theorem HK.at {B : Nat} {wx : World} {hb : Nat} {ao : Option Addr} {an ac k : Nat} {L : List En} {at_ : Int} (h : HK B wx hb ao an ac k L at_) (N : Int) :
    HK B (((wx.setCell ⟨hb, 3, none⟩ (.int .u64 (N % 1000000000))).setCell ⟨hb, 4, none⟩ (.int .i64 (N / 1000000000))).setCell ⟨hb, 5, none⟩ (.pointer none)) hb ao an ac k L N := by
  obtain ⟨lv, h1, own⟩ := h
  have ho := hk_other h1 own
  refine ⟨lv, set_block (set_block (set_block h1)), own.1, ?_⟩
  rcases own.2 with e | ⟨g, cap, cur, e, hB, hg, r⟩
  · exact .inl e
  · subst e
    have hne : g ≠ hb := fun e => ho (by rw [e]; rfl)
    exact .inr ⟨g, cap, cur, rfl, hB, (Below.heap_setCell _ _ _ _ hne).trans ((Below.heap_setCell _ _ _ _ hne).trans ((Below.heap_setCell _ _ _ _ hne).trans hg)), r⟩
theorem HK.next {B : Nat} {wx : World} {hb : Nat} {ao : Option Addr} {an ac k : Nat} {L : List En} {at_ : Int} (h : HK B wx hb ao an ac k L at_) :
    HK B (wx.setCell ⟨hb, 1, none⟩ (.int .i64 ((k : Int) + 1))) hb ao an ac (k + 1) L at_ := by
  obtain ⟨lv, h1, own⟩ := h
  have ho := hk_other h1 own
  refine ⟨lv, ?_, own.1, ?_⟩
  · rw [set_block h1]
    simp
  rcases own.2 with e | ⟨g, cap, cur, e, hB, hg, r⟩
  · exact .inl e
  · subst e
    have hne : g ≠ hb := fun e => ho (by rw [e]; rfl)
    exact .inr ⟨g, cap, cur, rfl, hB, (Below.heap_setCell _ _ _ _ hne).trans hg, r⟩

set_option maxRecDepth 100000 in
set_option maxHeartbeats 1000000 in
theorem rebuild_any (B hb : Nat) (ao : Option Addr) (an ac k : Nat) (L : List En) (at_ N : Int) (w : World) (h : HK B w hb ao an ac k L at_) (hB : B ≤ w.heap.size) (hL : L.length ≤ 5000) :
    Calls Yba.prog 69 #[.pointer (some ⟨hb, 0, none⟩), .agg (tmCells N)] w fun e w' => e = .returned (.tuple #[]) ∧ HK B w' hb ao an ac k (L ++ [(66, ⟨#[]⟩)]) N ∧ Fr B hb w w' := by
  go_enter Yba.func69, Yba.ntmps69
  go_upto_region 1 with fail
  have hT : (w.alloc (.cells (tmCells N) 46)).heap[w.heap.size]? = some (.cells (tmCells N) 46 (0, 0)) := heap_alloc_new _ _
  have hW := h.then ((Kept.refl [] w).alloc (.cells (tmCells N) 46))
  have kW : Kept [] w (w.alloc (.cells (tmCells N) 46)) := (Kept.refl [] w).alloc _
  have hbB : hb ≠ w.heap.size := by
    obtain ⟨lv, h1, _⟩ := h
    have := lt_box h1
    omega
  obtain ⟨tb, htb⟩ : ∃ tb, w.heap.size = tb := ⟨_, rfl⟩
  rw [htb] at hT hbB ⊢
  generalize w.alloc (.cells (tmCells N) 46) = W at hT hW kW ⊢
  obtain ⟨lv, h1, own⟩ := hW
  obtain ⟨ii, hi, hz0, hz1, hz2⟩ := info_parts info81
  have c2 : W.cell? ⟨hb, 2, none⟩ = some lv := (box_cell h1 2).trans rfl
  have f := fun i => free_box (i := i) h1
  have H1 := hide' h1
  have OW := hide' own
  have HT := hide' hT
  have KW := hide' kW
  have lb := lt_box h1
  have hBW : B ≤ W.heap.size := Nat.le_trans hB kW.size
  clear h1 own h kW hT htb hB
  go_wp2_with (at_builtin; refine wpList_append_lies _ rfl _ _ 59 rfl B 81 ii _ 2 24 Yba.underlying59 hi hz0 hz1 hz2 rfl (by omega) lv L.length (L.flatMap encEn) rfl (OW.out.alloc _) ⟨W.heap.size, 0, none⟩ 1 1 (encEn (66, ⟨#[]⟩)) rfl rfl ?n1 ?n2 (by omega) ?n3 ?n4 ?n5 _ rfl ?_)
  case n1 => exact World.news_of_block (heap_alloc_new W (.cells (encEn (66, ⟨#[]⟩)).toArray 81))
  case n2 => intro u hu; simp [encEn] at hu; rcases hu with rfl | rfl <;> rfl
  case n3 => simp [maxLen]; omega
  case n4 => omega
  case n5 => simp; omega
  intro g cap w1 hown hgrow _ hlt
  have HP := hide' (hk_push (e := (66, ⟨#[]⟩)) H1.out OW.out hown hgrow)
  have hk := hk_keep H1.out OW.out hgrow
  have d2 : w1.cell? ⟨hb, 2, none⟩ = some lv := (box_cell hk 2).trans rfl
  have d3 : w1.cell? ⟨hb, 3, none⟩ = some _ := (box_cell hk 3).trans rfl
  have d4 : w1.cell? ⟨hb, 4, none⟩ = some _ := (box_cell hk 4).trans rfl
  have d5 : w1.cell? ⟨hb, 5, none⟩ = some _ := (box_cell hk 5).trans rfl
  have f2 := fun i => free_box (i := i) hk
  have ht1 : w1.heap[tb]? = some (.cells (tmCells N) 46 (0, 0)) := by
    have hfr : Fr B hb W w1 := (Fr.of_kept ((Kept.refl [] W).alloc _)).trans (Fr.of_grown (OW.out.alloc _) hgrow)
    exact (hfr.block tb (lt_box HT.out) (Ne.symm hbB) (.inr ⟨_, 46, _, HT.out, by decide⟩)).trans HT.out
  have t0 : w1.cell? ⟨tb, 0, none⟩ = some (.int .u64 (N % 1000000000)) := (box_cell ht1 0).trans rfl
  have t1 : w1.cell? ⟨tb, 1, none⟩ = some (.int .i64 (N / 1000000000)) := (box_cell ht1 1).trans rfl
  have t2 : w1.cell? ⟨tb, 2, none⟩ = some (.pointer none) := (box_cell ht1 2).trans rfl
  have hbt : ¬ tb = hb := Ne.symm hbB
  clear c2 f hown hgrow hk OW H1 ht1 HT
  go_wp2_with fail
  go_end0
  refine ⟨rfl, HP.out.1.at N, ?_⟩
  exact (((Fr.of_kept KW.out).trans HP.out.2).setCell 3 _ |>.setCell 4 _ |>.setCell 5 _)

/-- the answers handed in -/
def AnsAt (B : Nat) (w : World) (ao : Option Addr) (an : Nat) (xs : Nat → Nat) : Prop :=
  0 < an → ∃ b off, ao = some ⟨b, off, none⟩ ∧ b < B ∧ b < w.heap.size ∧ ∀ i, i < an → w.cell? ⟨b, off + i, none⟩ = some (.float .f64 (xs i))
theorem AnsAt.then {B hb : Nat} {w w' : World} {ao : Option Addr} {an : Nat} {xs : Nat → Nat} (h : AnsAt B w ao an xs) (f : Fr B hb w w') (hb' : B ≤ hb) : AnsAt B w' ao an xs := by
  intro hp
  obtain ⟨b, off, e, h1, h2, h3⟩ := h hp
  refine ⟨b, off, e, h1, Nat.lt_of_lt_of_le h2 f.size, fun i hi => ?_⟩
  rw [World.cell?_of_block (f.block b h2 (by omega) (.inl h1))]
  exact h3 i hi

set_option maxRecDepth 100000 in
set_option maxHeartbeats 2000000 in
theorem hadd_any (B hb : Nat) (ao : Option Addr) (an ac k : Nat) (L : List En) (at_ : Int) (xs : Nat → Nat) (s : ByteArray) (w : World) (h : HK B w hb ao an ac k L at_) (ha : AnsAt B w ao an xs) (hbB : B ≤ hb) (hB : B ≤ w.heap.size) (hL : L.length ≤ 5000) (hk5 : k ≤ 5000) (han : an ≤ 1024) :
    Calls Yba.prog 68 #[.pointer (some ⟨hb, 0, none⟩), .string s] w fun e w' => e = .returned (.float .f64 (if k < an then xs k else 0)) ∧ HK B w' hb ao an ac (k + 1) (L ++ [(65, s)]) at_ ∧ Fr B hb w w' := by
  obtain ⟨rv, hrv⟩ : ∃ rv, (if k < an then xs k else 0) = rv := ⟨_, rfl⟩
  rw [hrv]
  have HRV := hide' hrv
  clear hrv
  obtain ⟨lv, h1, own⟩ := h
  obtain ⟨ii, hi, hz0, hz1, hz2⟩ := info_parts info81
  have c2 : w.cell? ⟨hb, 2, none⟩ = some lv := (box_cell h1 2).trans rfl
  have f := fun i => free_box (i := i) h1
  have H1 := hide' h1
  have OW := hide' own
  have HA := hide' ha
  have lb := lt_box h1
  clear h1 own ha
  go_enter Yba.func68, Yba.ntmps68
  go_upto_region 2 with (at_builtin; refine wpList_append_lies _ rfl _ _ 59 rfl B 81 ii _ 2 24 Yba.underlying59 hi hz0 hz1 hz2 rfl (by omega) lv L.length (L.flatMap encEn) rfl (OW.out.alloc _) ⟨w.heap.size, 0, none⟩ 1 1 (encEn (65, s)) rfl rfl ?n1 ?n2 (by omega) ?n3 ?n4 ?n5 _ rfl ?_)
  case n1 => exact World.news_of_block (heap_alloc_new w (.cells (encEn (65, s)).toArray 81))
  case n2 => intro u hu; simp [encEn] at hu; rcases hu with rfl | rfl <;> rfl
  case n3 => simp [maxLen]; omega
  case n4 => omega
  case n5 => simp; omega
  intro g cap w1 hown hgrow _ hlt
  have hp := hk_push (e := (65, s)) H1.out OW.out hown hgrow
  have hk := hk_keep H1.out OW.out hgrow
  have d2 : w1.cell? ⟨hb, 2, none⟩ = some lv := (box_cell hk 2).trans rfl
  have f2 := fun i => free_box (i := i) hk
  have HP := hide' hp
  have HA2 := hide' (HA.out.then hp.2 hbB)
  clear c2 f hown hgrow hk OW H1 hp HA
  go_upto_region 2 with fail
  clear d2 f2
  obtain ⟨W, eW⟩ : ∃ W, W = w1.setCell ⟨hb, 2, none⟩ (.slice (some ⟨g, 0, none⟩) (L.length + 1) cap) := ⟨_, rfl⟩
  rw [← eW] at HP HA2 ⊢
  clear eW
  obtain ⟨lv2, h2, own2⟩ := HP.out.1
  have c0 : W.cell? ⟨hb, 0, none⟩ = some (.slice ao an ac) := (box_cell h2 0).trans rfl
  have c1 : W.cell? ⟨hb, 1, none⟩ = some (.int .i64 (k : Int)) := (box_cell h2 1).trans rfl
  have ff := fun i => free_box (i := i) h2
  clear h2 own2
  by_cases hka : k < an
  · have hkz : (k : Int) < (an : Int) := by omega
    obtain ⟨b, off, rfl, hb1, hb2, hb3⟩ := HA2.out (by omega)
    have x0 := hb3 k hka
    obtain rfl : xs k = rv := by rw [← HRV.out, if_pos hka]
    clear hb3 HA2 HRV
    go_upto_region 3 with fail
    go_quiet (fail)
    go_upto_region 4 with fail
    go_quiet (fail)
    go_wp2_with fail
    go_ret
    exact ⟨rfl, (HP.out.1.then (Kept.drewN [] _ _)).next, (HP.out.2.trans (Fr.of_kept (Kept.drewN [] _ _))).setCell 1 _⟩
  · obtain rfl : 0 = rv := by rw [← HRV.out, if_neg hka]
    have hkz : ¬ (k : Int) < (an : Int) := by omega
    clear HA2 HRV
    go_upto_region 3 with fail
    go_quiet (fail)
    go_wp2_with fail
    go_ret
    exact ⟨rfl, (HP.out.1.then (Kept.drewN [] _ _)).next, (HP.out.2.trans (Fr.of_kept (Kept.drewN [] _ _))).setCell 1 _⟩
end Go.Proofs.Ybulkdwc
