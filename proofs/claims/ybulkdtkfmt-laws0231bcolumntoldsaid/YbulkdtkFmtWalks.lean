/-
  Seat b0231aF: peek (7), column (5), zzs0231bkind (4), zzs0231bsame (6).
-/
import Derived.Test.YbulkdtkFmtFacts
import Derived.Outline
import Derived.RegionTactic
import Derived.BigQuiet
import Derived.Deep.QuietTactic
import Derived.Deep.RegionHeld3
import Derived.Deep.AppendLies
import Derived.WalkSpells
import Derived.Deep.RegionLaw
namespace Go.Proofs.YbulkdtkFmt
open Go.Extern.Stop Go.Stop Go.Extern Go.RowKit

set_option maxHeartbeats 1000000 in
theorem kind_any (k : Int) (w : World) : Calls Ybaf.prog 4 #[.int .u8 k] w fun e w' => (∃ s : ByteArray, e = .returned (.string s)) ∧ w = w' := by
  go_enter Ybaf.func4, Ybaf.ntmps4
  go_wp2
  all_goals
    go_ret
    exact ⟨⟨_, rfl⟩, rfl⟩

set_option maxHeartbeats 1000000 in
theorem peek_any (bp g n c at' : Nat) (k s : ByteArray) (ps : Int) (w : World) (hat : at' < n)
    (h1 : w.cell? ⟨bp, 1, none⟩ = some (.slice (some ⟨g, 0, none⟩) n c)) (h2 : w.cell? ⟨bp, 2, none⟩ = some (.int .i64 at'))
    (t0 : w.cell? ⟨g, at' * 3, none⟩ = some (.string k)) (t1 : w.cell? ⟨g, at' * 3 + 1, none⟩ = some (.string s)) (t2 : w.cell? ⟨g, at' * 3 + 2, none⟩ = some (.int .i64 ps)) :
    Calls Ybaf.prog 7 #[.pointer (some ⟨bp, 0, none⟩)] w fun e w' => e = .returned (.agg #[.string k, .string s, .int .i64 ps]) ∧ Below w.heap.size w w' := by
  have b1 : (at' : Int) < (n : Int) := by omega
  have hbp : bp < w.heap.size := World.block_lt_of_cell? w _ h1
  have hg : g < w.heap.size := World.block_lt_of_cell? w _ t0
  go_enter Ybaf.func7, Ybaf.ntmps7
  go_wp2
  go_region
  go_wp2
  exact bodyPost_ret (v := .agg #[.string k, .string s, .int .i64 ps]) (by simp [results, Ybaf.results7, go_sem]) rfl ⟨rfl, ((Below.refl _ _).alloc (Nat.le_refl _) _).drew⟩

/-- what is known of the parser's box and of the token at hand -/
structure PBox (w : World) (bp g n c at' : Nat) (va : Int) (cols : Value) (k s : ByteArray) (ps : Int) : Prop where
  hn : n ≤ 2000
  hat : at' < n
  box : ∃ x0 x3 x4 x7, w.heap[bp]? = some (.cells #[x0, .slice (some ⟨g, 0, none⟩) n c, .int .i64 at', x3, x4, .int .i64 va, cols, x7] 35 (0, 0))
  t0 : w.cell? ⟨g, at' * 3, none⟩ = some (.string k)
  t1 : w.cell? ⟨g, at' * 3 + 1, none⟩ = some (.string s)
  t2 : w.cell? ⟨g, at' * 3 + 2, none⟩ = some (.int .i64 ps)
theorem hide' {p : Prop} (h : p) : Hid p := h
theorem box_cell {w : World} {bp : Nat} {cs : Array Value} {t : TypeId} (h : w.heap[bp]? = some (.cells cs t (0, 0))) (i : Nat) : w.cell? ⟨bp, i, none⟩ = cs[i]? := by
  simp [World.cell?, h]

set_option maxHeartbeats 1000000 in
theorem column_err (F : Interp) (bp g n c at' : Nat) (va : Int) (cols : Value) (ps : Int) (w : World) (hF : F.answers w.tape)
    (hb : PBox w bp g n c at' va cols ⟨#[113, 117, 111, 116, 101, 100, 32, 110, 97, 109, 101]⟩ ⟨#[]⟩ ps) :
    Calls Ybaf.prog 5 #[.pointer (some ⟨bp, 0, none⟩)] w fun e w' => (∃ a, e = .returned (.tuple #[.nilIface, .iface 51 (.pointer (some a))])) ∧ Below w.heap.size w w' := by
  obtain ⟨x0, x3, x4, x7, hbox⟩ := hb.box
  have h1 : w.cell? ⟨bp, 1, none⟩ = some (.slice (some ⟨g, 0, none⟩) n c) := by rw [box_cell hbox]; rfl
  have h2 : w.cell? ⟨bp, 2, none⟩ = some (.int .i64 at') := by rw [box_cell hbox]; rfl
  have HP := peek_any bp g n c at' _ _ ps w hb.hat h1 h2 hb.t0 hb.t1 hb.t2
  clear h1 h2 hbox hb
  go_enter Ybaf.func5, Ybaf.ntmps5
  go_wp2_with fail
  refine HP.mono ?_
  rintro e w1 ⟨rfl, b1⟩
  clear HP
  go_wp2_with fail
  have hF2 : ∀ (o1 o2 : Obj), F.answers ((w1.alloc o1).alloc o2).tape := fun o1 o2 => by show F.answers w1.tape; rw [b1.tape]; exact hF
  refine (errorf_any F (w1.heap.size + 1) (wrap64 (ps + 1)) _ (hF2 _ _) (by simp)).mono ?_
  rintro e w2 ⟨⟨a, rfl⟩, b2⟩
  go_wp2
  go_ret2
  refine ⟨⟨a, rfl⟩, ((((b1.alloc b1.size _).alloc (by simp; have := b1.size; omega) _)).trans (b2.mono (by simp; have := b1.size; omega)))⟩

theorem set_block {w : World} {b i : Nat} {u : Value} {cs : Array Value} {t : TypeId} {fr : Nat × Nat} (h : w.heap[b]? = some (.cells cs t fr)) : (w.setCell ⟨b, i, none⟩ u).heap[b]? = some (.cells (cs.setIfInBounds i u) t fr) := by
  have hlt := (Array.getElem?_eq_some_iff.1 h).1
  have h' : w.heap[b] = .cells cs t fr := by simpa [Array.getElem?_eq_getElem hlt] using h
  show (w.heap.modify b _)[b]? = _
  rw [Array.getElem?_eq_getElem (by simpa using hlt), Array.getElem_modify_self, h']
  rfl
/-- what a call leaves alone: every old block but two -/
structure Twin (w w' : World) (r1 r2 : Option Nat) : Prop where
  os : w'.os = w.os
  tape : w'.tape = w.tape
  output : w'.output = w.output
  size : w.heap.size ≤ w'.heap.size
  block : ∀ k, k < w.heap.size → some k ≠ r1 → some k ≠ r2 → w'.heap[k]? = w.heap[k]?
theorem own_ne {w : World} {B n b e : Nat} {v : Value} {xs : List Value} {C : Array Value} (h : w.ownsRow B 9 1 v n xs) (hb : w.heap[b]? = some (.cells C e (0, 0))) (he : e ≠ 9) : some b ≠ v.ownBlock := by
  rcases h.2 with ⟨rfl, _⟩ | ⟨g, cap, cur, rfl, _, hg, _⟩
  · simp [Value.ownBlock]
  · intro eq
    simp [Value.ownBlock] at eq
    subst eq
    rw [hb] at hg
    simp at hg
    exact he hg.2
/-- the world of 'column' ahead of its append -/
theorem col_world {w w1 : World} {bp B m : Nat} {x0 tk x3 x4 x7 cols k s p a0 a5 n2 n5 : Value} {xs : List Value} (b1 : Below w.heap.size w w1) (hbp : bp < w.heap.size)
    (hbox1 : w1.heap[bp]? = some (.cells #[x0, tk, a0, x3, x4, a5, cols, x7] 35 (0, 0))) (hown : w.ownsRow B 9 1 cols m xs) :
    ∃ W, W = ((w1.setCell ⟨bp, 2, none⟩ n2).setCell ⟨bp, 5, none⟩ n5).alloc (.cells #[k, s, p] 31) ∧ W.heap[bp]? = some (.cells #[x0, tk, n2, x3, x4, n5, cols, x7] 35 (0, 0)) ∧
      W.heap[w1.heap.size]? = some (.cells #[k, s, p] 31 (0, 0)) ∧ W.heap.size = w1.heap.size + 1 ∧ W.ownsRow B 9 1 cols m xs ∧ Twin w W (some bp) cols.ownBlock := by
  have hs : ((w1.setCell ⟨bp, 2, none⟩ n2).setCell ⟨bp, 5, none⟩ n5).heap.size = w1.heap.size := by simp [World.setCell]
  have hbp1 : bp < w1.heap.size := Nat.lt_of_lt_of_le hbp b1.size
  have hother : ∀ i, i < w1.heap.size → i ≠ bp → (((w1.setCell ⟨bp, 2, none⟩ n2).setCell ⟨bp, 5, none⟩ n5).alloc (.cells #[k, s, p] 31)).heap[i]? = w1.heap[i]? := fun i hi hne => by
    rw [Below.heap_alloc _ _ _ (by omega), Below.heap_setCell _ _ _ _ hne, Below.heap_setCell _ _ _ _ hne]
  have hbox : w.heap[bp]? = some (.cells #[x0, tk, a0, x3, x4, a5, cols, x7] 35 (0, 0)) := (b1.block bp hbp).symm.trans hbox1
  refine ⟨_, rfl, ?_, ?_, ?_, ?_, ?_⟩
  · rw [Below.heap_alloc _ _ _ (by omega), set_block (set_block hbox1)]
    rfl
  · have := heap_alloc_new ((w1.setCell ⟨bp, 2, none⟩ n2).setCell ⟨bp, 5, none⟩ n5) (.cells #[k, s, p] 31)
    rw [hs] at this
    exact this
  · simp [World.setCell]
  · refine ⟨hown.1, ?_⟩
    rcases hown.2 with hn | ⟨g, cap, cur, rfl, h1, h2, rest⟩
    · exact .inl hn
    · have hg := (Array.getElem?_eq_some_iff.1 h2).1
      have hne : g ≠ bp := fun e => by subst e; rw [hbox] at h2; simp at h2
      exact .inr ⟨g, cap, cur, rfl, h1, (hother g (Nat.lt_of_lt_of_le hg b1.size) hne).trans ((b1.block g hg).trans h2), rest⟩
  · refine ⟨b1.os, b1.tape, b1.output, ?_, fun i hi h1 _ => ?_⟩
    · have := b1.size
      have e : (((w1.setCell ⟨bp, 2, none⟩ n2).setCell ⟨bp, 5, none⟩ n5).alloc (.cells #[k, s, p] 31)).heap.size = w1.heap.size + 1 := by simp [World.setCell]
      omega
    · exact (hother i (Nat.lt_of_lt_of_le hi b1.size) (fun e => h1 (by rw [e]))).trans (b1.block i hi)
theorem app_keep {W w2 : World} {B m b e : Nat} {v : Value} {xs : List Value} {C : Array Value} {o : Obj} (ho : W.ownsRow B 9 1 v m xs) (hb : W.heap[b]? = some (.cells C e (0, 0))) (he : e ≠ 9)
    (hg : (W.alloc o).drew.grownBy w2 v.ownBlock) : w2.heap[b]? = some (.cells C e (0, 0)) := by
  have hlt := (Array.getElem?_eq_some_iff.1 hb).1
  refine (hg.block b (by show b < (W.alloc o).heap.size; simp; omega) (own_ne ho hb he)).trans ?_
  show (W.alloc o).heap[b]? = _
  rw [Below.heap_alloc _ _ _ hlt, hb]
theorem free_box {w : World} {b i : Nat} {C : Array Value} {e : TypeId} (h : w.heap[b]? = some (.cells C e (0, 0))) : w.frozen? ⟨b, i, none⟩ = false := by simp [World.frozen?, h]
theorem far_cell {w : World} {b b' i j : Nat} {u v : Value} {C : Array Value} {e : TypeId} (h : w.heap[b']? = some (.cells C e (0, 0))) (hv : C[j]? = some v) (hne : b' ≠ b) : (w.setCell ⟨b, i, none⟩ u).cell? ⟨b', j, none⟩ = some v := by
  rw [World.cell?_of_block (w := w) (w' := w.setCell ⟨b, i, none⟩ u) (a := ⟨b', j, none⟩) (Below.heap_setCell w ⟨b, i, none⟩ u b' hne), box_cell h, hv]
/-- the world of 'column' at its end -/
theorem col_end {w W w2 : World} {bp B m g2 cap2 : Nat} {x0 tk x3 x4 x7 cols n2 n5 : Value} {xs : List Value} {s : Value} {o : Obj} (tw : Twin w W (some bp) cols.ownBlock)
    (box3 : w2.heap[bp]? = some (.cells #[x0, tk, n2, x3, x4, n5, cols, x7] 35 (0, 0))) (hg : (W.alloc o).drew.grownBy w2 cols.ownBlock) (ho : w2.ownsRow B 9 1 (.slice (some ⟨g2, 0, none⟩) (m + 1) cap2) (m + 1) (xs ++ [s])) (hbp : bp < w.heap.size) :
    (∃ x0 x3 x4 x7 v', (w2.setCell ⟨bp, 6, none⟩ (.slice (some ⟨g2, 0, none⟩) (m + 1) cap2)).heap[bp]? = some (.cells #[x0, tk, n2, x3, x4, n5, v', x7] 35 (0, 0)) ∧ (w2.setCell ⟨bp, 6, none⟩ (.slice (some ⟨g2, 0, none⟩) (m + 1) cap2)).ownsRow B 9 1 v' (m + 1) (xs ++ [s])) ∧
      Twin w (w2.setCell ⟨bp, 6, none⟩ (.slice (some ⟨g2, 0, none⟩) (m + 1) cap2)) (some bp) cols.ownBlock := by
  have hs : (w2.setCell ⟨bp, 6, none⟩ (.slice (some ⟨g2, 0, none⟩) (m + 1) cap2)).heap.size = w2.heap.size := by simp [World.setCell]
  refine ⟨⟨x0, x3, x4, x7, _, by rw [set_block box3]; rfl, ?_⟩, ?_⟩
  · refine ⟨ho.1, ?_⟩
    rcases ho.2 with ⟨hn, _⟩ | ⟨g, cap, cur, e, h1, h2, rest⟩
    · cases hn
    · have hne : g ≠ bp := fun e => by subst e; rw [box3] at h2; simp at h2
      exact .inr ⟨g, cap, cur, e, h1, (Below.heap_setCell w2 ⟨bp, 6, none⟩ _ g hne).trans h2, rest⟩
  · have h1 := tw.size
    have h2 := hg.size
    have h3 : (W.alloc o).drew.heap.size = W.heap.size + 1 := by show (W.alloc o).heap.size = _; simp
    refine ⟨hg.os.trans tw.os, hg.tape.trans tw.tape, hg.output.trans tw.output, by omega, fun i hi r1 r2 => ?_⟩
    rw [Below.heap_setCell w2 ⟨bp, 6, none⟩ _ i (fun e => r1 (by rw [e]))]
    refine (hg.block i (by omega) r2).trans ?_
    show (W.alloc o).heap[i]? = _
    rw [Below.heap_alloc _ _ _ (by omega)]
    exact tw.block i hi r1 r2
theorem info9 : (Ybaf.prog.info? 9).map (fun i => (i.zero, i.size, i.bytes)) = some (some (.string ⟨#[]⟩), 1, 16) := by kernel_rfl

set_option maxHeartbeats 2000000 in
theorem column_ok (bp g n c at' : Nat) (va : Int) (cols : Value) (k s : ByteArray) (ps : Int) (w : World)
    (hb : PBox w bp g n c at' va cols k s ps) (hq : (k.toList == [113, 117, 111, 116, 101, 100, 32, 110, 97, 109, 101]) = false) (B m : Nat) (xs : List Value) (hown : w.ownsRow B 9 1 cols m xs) (hB : B ≤ w.heap.size) (hm : m ≤ 1024) :
    Calls Ybaf.prog 5 #[.pointer (some ⟨bp, 0, none⟩)] w fun e w' => e = .returned (.tuple #[.iface 43 (.string s), .nilIface]) ∧
      (∃ x0 x3 x4 x7 v', w'.heap[bp]? = some (.cells #[x0, .slice (some ⟨g, 0, none⟩) n c, .int .i64 ((at' : Int) + 1), x3, x4, .int .i64 (wrap64 (va + 1)), v', x7] 35 (0, 0)) ∧ w'.ownsRow B 9 1 v' (m + 1) (xs ++ [.string s])) ∧ Twin w w' (some bp) cols.ownBlock := by
  obtain ⟨x0, x3, x4, x7, hbox⟩ := hb.box
  obtain ⟨i0, hi0, hz0, hz1, hz2⟩ := info_parts info9
  have h1 : w.cell? ⟨bp, 1, none⟩ = some (.slice (some ⟨g, 0, none⟩) n c) := by rw [box_cell hbox]; rfl
  have h2 : w.cell? ⟨bp, 2, none⟩ = some (.int .i64 at') := by rw [box_cell hbox]; rfl
  have hbp : bp < w.heap.size := World.block_lt_of_cell? w _ h1
  have HP := peek_any bp g n c at' _ _ ps w hb.hat h1 h2 hb.t0 hb.t1 hb.t2
  have hn := hb.hn
  have hat := hb.hat
  clear h1 h2 hb
  go_enter Ybaf.func5, Ybaf.ntmps5
  go_wp2_with fail
  refine HP.mono ?_
  rintro e w1 ⟨rfl, b1⟩
  clear HP
  have hbox1 : w1.heap[bp]? = some (.cells #[x0, .slice (some ⟨g, 0, none⟩) n c, .int .i64 at', x3, x4, .int .i64 va, cols, x7] 35 (0, 0)) := (b1.block bp hbp).trans hbox
  have c2 : w1.cell? ⟨bp, 2, none⟩ = some (.int .i64 at') := by rw [box_cell hbox1]; rfl
  have c5 : w1.cell? ⟨bp, 5, none⟩ = some (.int .i64 va) := by rw [box_cell hbox1]; rfl
  have fz : ∀ i, w1.frozen? ⟨bp, i, none⟩ = false := fun i => by simp [World.frozen?, hbox1]
  have hbp1 : bp < w1.heap.size := Nat.lt_of_lt_of_le hbp b1.size
  go_wp2
  obtain ⟨W, eW, box2, tbox, hsz, own2, tw⟩ := col_world (n2 := .int .i64 ((at' : Int) + 1)) (n5 := .int .i64 (wrap64 (va + 1))) (k := .string k) (s := .string s) (p := .int .i64 ps) b1 hbp hbox1 hown
  rw [← eW]
  have d6 : W.cell? ⟨bp, 6, none⟩ = some cols := by rw [box_cell box2]; rfl
  have d1 : W.cell? ⟨w1.heap.size, 1, none⟩ = some (.string s) := by rw [box_cell tbox]; rfl
  have hltp : bp < W.heap.size := by omega
  have hltt : w1.heap.size < W.heap.size := by omega
  have HB : B ≤ W.heap.size := by have := b1.size; omega
  have BOX := hide' box2
  have TB := hide' tbox
  have OWN := hide' own2
  have TW := hide' tw
  have HNE : w1.heap.size ≠ bp := by omega
  clear eW c2 c5 fz hbox1 hbox box2 tbox own2 tw hown hsz hbp1 b1
  go_region_law (refine step_append_lies _ rfl (.tmp 39) (.tmp 42) 24 rfl B 9 i0 (.string ⟨#[]⟩) 1 16 Ybaf.underlying24 hi0 hz0 hz1 hz2 rfl (by decide) cols m xs rfl (OWN.out.alloc _).drew ⟨W.heap.size, 0, none⟩ 1 1 [.string s] rfl rfl (fun j u hj => cell_one_new W _ _ j u hj) (by intro u hu; simp at hu; subst hu; rfl) (by decide) (by unfold maxLen; omega) (by omega) (by simp; omega) _ rfl ?_; intro g2 cap2 w2 ho2 hg2 hat2 hlt2; have e6 : w2.cell? ⟨bp, 6, none⟩ = some cols := (box_cell (app_keep OWN.out BOX.out (by decide) hg2) 6).trans rfl; have f6 : w2.frozen? ⟨bp, 6, none⟩ = false := free_box (app_keep OWN.out BOX.out (by decide) hg2); have g6 : (w2.setCell ⟨bp, 6, none⟩ (.slice (some ⟨g2, 0, none⟩) (m + 1) cap2)).cell? ⟨w1.heap.size, 1, none⟩ = some (.string s) := far_cell (app_keep OWN.out TB.out (by decide) hg2) rfl HNE)
  all_goals
    have box3 := hide' (app_keep OWN.out BOX.out (by decide) hg2)
    have hend := hide' (col_end TW.out box3.out hg2 ho2 hbp)
    clear e6 f6 box3 ho2 hg2
    go_wp2
    go_ret2
    exact ⟨rfl, hend.out⟩
set_option maxHeartbeats 2000000 in
theorem column_ok2 (bp g n c at' : Nat) (va : Int) (cols : Value) (s : ByteArray) (ps : Int) (w : World)
    (hb : PBox w bp g n c at' va cols ⟨#[113, 117, 111, 116, 101, 100, 32, 110, 97, 109, 101]⟩ s ps) (hq : s.toList.isEmpty = false) (B m : Nat) (xs : List Value) (hown : w.ownsRow B 9 1 cols m xs) (hB : B ≤ w.heap.size) (hm : m ≤ 1024) :
    Calls Ybaf.prog 5 #[.pointer (some ⟨bp, 0, none⟩)] w fun e w' => e = .returned (.tuple #[.iface 43 (.string s), .nilIface]) ∧
      (∃ x0 x3 x4 x7 v', w'.heap[bp]? = some (.cells #[x0, .slice (some ⟨g, 0, none⟩) n c, .int .i64 ((at' : Int) + 1), x3, x4, .int .i64 (wrap64 (va + 1)), v', x7] 35 (0, 0)) ∧ w'.ownsRow B 9 1 v' (m + 1) (xs ++ [.string s])) ∧ Twin w w' (some bp) cols.ownBlock := by
  obtain ⟨x0, x3, x4, x7, hbox⟩ := hb.box
  obtain ⟨i0, hi0, hz0, hz1, hz2⟩ := info_parts info9
  have h1 : w.cell? ⟨bp, 1, none⟩ = some (.slice (some ⟨g, 0, none⟩) n c) := by rw [box_cell hbox]; rfl
  have h2 : w.cell? ⟨bp, 2, none⟩ = some (.int .i64 at') := by rw [box_cell hbox]; rfl
  have hbp : bp < w.heap.size := World.block_lt_of_cell? w _ h1
  have HP := peek_any bp g n c at' _ _ ps w hb.hat h1 h2 hb.t0 hb.t1 hb.t2
  have hn := hb.hn
  have hat := hb.hat
  clear h1 h2 hb
  go_enter Ybaf.func5, Ybaf.ntmps5
  go_wp2_with fail
  refine HP.mono ?_
  rintro e w1 ⟨rfl, b1⟩
  clear HP
  have hbox1 : w1.heap[bp]? = some (.cells #[x0, .slice (some ⟨g, 0, none⟩) n c, .int .i64 at', x3, x4, .int .i64 va, cols, x7] 35 (0, 0)) := (b1.block bp hbp).trans hbox
  have c2 : w1.cell? ⟨bp, 2, none⟩ = some (.int .i64 at') := by rw [box_cell hbox1]; rfl
  have c5 : w1.cell? ⟨bp, 5, none⟩ = some (.int .i64 va) := by rw [box_cell hbox1]; rfl
  have fz : ∀ i, w1.frozen? ⟨bp, i, none⟩ = false := fun i => by simp [World.frozen?, hbox1]
  have hbp1 : bp < w1.heap.size := Nat.lt_of_lt_of_le hbp b1.size
  go_wp2
  obtain ⟨W, eW, box2, tbox, hsz, own2, tw⟩ := col_world (n2 := .int .i64 ((at' : Int) + 1)) (n5 := .int .i64 (wrap64 (va + 1))) (k := .string ⟨#[113, 117, 111, 116, 101, 100, 32, 110, 97, 109, 101]⟩) (s := .string s) (p := .int .i64 ps) b1 hbp hbox1 hown
  rw [← eW]
  have d6 : W.cell? ⟨bp, 6, none⟩ = some cols := by rw [box_cell box2]; rfl
  have d1 : W.cell? ⟨w1.heap.size, 1, none⟩ = some (.string s) := by rw [box_cell tbox]; rfl
  have hltp : bp < W.heap.size := by omega
  have hltt : w1.heap.size < W.heap.size := by omega
  have HB : B ≤ W.heap.size := by have := b1.size; omega
  have BOX := hide' box2
  have TB := hide' tbox
  have OWN := hide' own2
  have TW := hide' tw
  have HNE : w1.heap.size ≠ bp := by omega
  clear eW c2 c5 fz hbox1 hbox box2 tbox own2 tw hown hsz hbp1 b1
  go_region_law (refine step_append_lies _ rfl (.tmp 39) (.tmp 42) 24 rfl B 9 i0 (.string ⟨#[]⟩) 1 16 Ybaf.underlying24 hi0 hz0 hz1 hz2 rfl (by decide) cols m xs rfl (OWN.out.alloc _).drew ⟨W.heap.size, 0, none⟩ 1 1 [.string s] rfl rfl (fun j u hj => cell_one_new W _ _ j u hj) (by intro u hu; simp at hu; subst hu; rfl) (by decide) (by unfold maxLen; omega) (by omega) (by simp; omega) _ rfl ?_; intro g2 cap2 w2 ho2 hg2 hat2 hlt2; have e6 : w2.cell? ⟨bp, 6, none⟩ = some cols := (box_cell (app_keep OWN.out BOX.out (by decide) hg2) 6).trans rfl; have f6 : w2.frozen? ⟨bp, 6, none⟩ = false := free_box (app_keep OWN.out BOX.out (by decide) hg2); have g6 : (w2.setCell ⟨bp, 6, none⟩ (.slice (some ⟨g2, 0, none⟩) (m + 1) cap2)).cell? ⟨w1.heap.size, 1, none⟩ = some (.string s) := far_cell (app_keep OWN.out TB.out (by decide) hg2) rfl HNE)
  all_goals
    have box3 := hide' (app_keep OWN.out BOX.out (by decide) hg2)
    have hend := hide' (col_end TW.out box3.out hg2 ho2 hbp)
    clear e6 f6 box3 ho2 hg2
    go_wp2
    go_ret2
    exact ⟨rfl, hend.out⟩

set_option maxHeartbeats 1000000 in
theorem same_any (a b : Option Addr) (n : Nat) (la ca lb cb : Nat) (ss : Nat → ByteArray) (w : World) (hn : n ≤ 2000) (ha : n ≤ la) (hb : n ≤ lb)
    (hA : 0 < n → ∃ g o, a = some ⟨g, o, none⟩ ∧ ∀ i, i < n → w.cell? ⟨g, o + i, none⟩ = some (.string (ss i)))
    (hB : 0 < n → ∃ g o, b = some ⟨g, o, none⟩ ∧ ∀ i, i < n → w.cell? ⟨g, o + i, none⟩ = some (.string (ss i))) :
    Calls Ybaf.prog 6 #[.slice a la ca, .slice b lb cb, .int .i64 n] w fun e w' => e = .returned (.bool true) ∧ ∃ q, w' = w.drewN q := by
  go_enter Ybaf.func6, Ybaf.ntmps6
  go_wp2
  go_loopw [7] (fun i wr => ∃ k q : Nat, k ≤ n ∧ i = .int .i64 k ∧ wr = w.drewN q) (fun i _ => n - (intOf i).toNat)
  case atStart => exact ⟨0, 0, by omega, rfl, rfl⟩
  case round =>
    obtain ⟨k, q, hk, rfl, rfl⟩ := hrel
    by_cases hlt : k < n
    · obtain ⟨g1, o1, rfl, c1⟩ := hA (by omega)
      obtain ⟨g2, o2, rfl, c2⟩ := hB (by omega)
      have d1 := c1 k hlt
      have d2 := c2 k hlt
      have b1 : (k : Int) < (la : Int) := by omega
      have b2 : (k : Int) < (lb : Int) := by omega
      generalize ss k = s at *
      clear c1 c2 hA hB
      go_wp2
      go_quiet (fail)
      go_wp2
      go_roundw
      case rel => exact ⟨k + 1, _, by omega, by go_num, rfl⟩
      case measure => simp [intOf]; omega
    · go_wp2
      go_ret
      exact ⟨rfl, _, rfl⟩
end Go.Proofs.YbulkdtkFmt
