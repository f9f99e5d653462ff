/-
  Seat b0230aF: what is kept; the walk of (*zzs0230creader).Read (49).
-/
import Derived.Test.YbulkdswFmtProg
import Derived.Outline
import Derived.WalkKit
import Derived.OwnWalk
import Derived.RegionTactic
import Derived.BigQuiet
import Derived.Deep.QuietTactic
import Derived.Deep.RegionHeld3
import Derived.Deep.AppendLies
import Derived.WalkSpells
import Derived.Deep.RegionLaw
import Derived.Laws.CopyOwn
import Derived.Below
namespace Go.Proofs.YbulkdswFmt
open Go.RowKit

/-- what a call leaves alone: every old block but those named -/
structure Kept (S : List Nat) (w w' : World) : Prop where
  os : w'.os = w.os
  tape : w'.tape = w.tape
  output : w'.output = w.output
  size : w.heap.size ≤ w'.heap.size
  block : ∀ k, k < w.heap.size → k ∉ S → w'.heap[k]? = w.heap[k]?
theorem Kept.refl (S : List Nat) (w : World) : Kept S w w := ⟨rfl, rfl, rfl, Nat.le_refl _, fun _ _ _ => rfl⟩
theorem Kept.trans {S : List Nat} {a b c : World} (h : Kept S a b) (k : Kept S b c) : Kept S a c :=
  ⟨k.os.trans h.os, k.tape.trans h.tape, k.output.trans h.output, Nat.le_trans h.size k.size, fun i hi hn => (k.block i (Nat.lt_of_lt_of_le hi h.size) hn).trans (h.block i hi hn)⟩
/-- a later change may touch what is new, or what the list names -/
theorem Kept.then {S T : List Nat} {a b c : World} (h : Kept S a b) (k : Kept T b c) (hT : ∀ t ∈ T, t < a.heap.size → t ∈ S) : Kept S a c :=
  ⟨k.os.trans h.os, k.tape.trans h.tape, k.output.trans h.output, Nat.le_trans h.size k.size, fun i hi hn => (k.block i (Nat.lt_of_lt_of_le hi h.size) (fun ht => hn (hT i ht hi))).trans (h.block i hi hn)⟩
theorem Kept.drewN (S : List Nat) (w : World) (q : Nat) : Kept S w (w.drewN q) := ⟨rfl, rfl, rfl, Nat.le_refl _, fun _ _ _ => rfl⟩
theorem Kept.drew {S : List Nat} {a b : World} (h : Kept S a b) : Kept S a b.drew := ⟨h.os, h.tape, h.output, h.size, h.block⟩
theorem Kept.drewN' {S : List Nat} {a b : World} (h : Kept S a b) (q : Nat) : Kept S a (b.drewN q) := ⟨h.os, h.tape, h.output, h.size, h.block⟩
theorem Kept.alloc {S : List Nat} {a b : World} (h : Kept S a b) (o : Obj) : Kept S a (b.alloc o) :=
  ⟨h.os, h.tape, h.output, by simp; have := h.size; omega, fun i hi hn => (Below.heap_alloc _ _ _ (Nat.lt_of_lt_of_le hi h.size)).trans (h.block i hi hn)⟩
theorem Kept.setCell {S : List Nat} {a b : World} (h : Kept S a b) (p : Addr) (v : Value) (hp : p.block < a.heap.size → p.block ∈ S) : Kept S a (b.setCell p v) :=
  ⟨h.os, h.tape, h.output, by simp [World.setCell]; exact h.size, fun i hi hn => (Below.heap_setCell _ _ _ _ (fun e => hn (by rw [e] at hi ⊢; exact hp hi))).trans (h.block i hi hn)⟩
theorem Kept.setRow {S : List Nat} {a b : World} (h : Kept S a b) (g : Nat) (cs : Array Value) (hp : g < a.heap.size → g ∈ S) : Kept S a (b.setRow g cs) :=
  ⟨h.os, h.tape, h.output, by simp [World.setRow]; exact h.size, fun i hi hn => (setRow_other b g i cs (fun e => hn (by rw [e] at hi ⊢; exact hp hi))).trans (h.block i hi hn)⟩
theorem Kept.below {S : List Nat} {B : Nat} {a b c : World} (h : Below B a b) (k : Kept S b c) (hS : ∀ s ∈ S, B ≤ s) (hB : B ≤ b.heap.size) : Below B a c :=
  ⟨k.os.trans h.os, k.tape.trans h.tape, k.output.trans h.output, Nat.le_trans h.size k.size, fun i hi => (k.block i (by omega) (fun hs => by have := hS i hs; omega)).trans (h.block i hi)⟩
theorem Kept.cell {S : List Nat} {a b : World} (h : Kept S a b) {p : Addr} (hp : p.block < a.heap.size) (hn : p.block ∉ S) : b.cell? p = a.cell? p := World.cell?_of_block (h.block p.block hp hn)

theorem hide' {p : Prop} (h : p) : Hid p := h
theorem box_cell {w : World} {bp : Nat} {cs : Array Value} {t : TypeId} (h : w.heap[bp]? = some (.cells cs t (0, 0))) (i : Nat) : w.cell? ⟨bp, i, none⟩ = cs[i]? := by
  simp [World.cell?, h]
theorem free_box {w : World} {b i : Nat} {C : Array Value} {e : TypeId} (h : w.heap[b]? = some (.cells C e (0, 0))) : w.frozen? ⟨b, i, none⟩ = false := by simp [World.frozen?, h]
theorem lt_box {w : World} {b : Nat} {o : Obj} (h : w.heap[b]? = some o) : b < w.heap.size := (Array.getElem?_eq_some_iff.1 h).1
theorem set_block {w : World} {b i : Nat} {u : Value} {cs : Array Value} {t : TypeId} {fr : Nat × Nat} (h : w.heap[b]? = some (.cells cs t fr)) : (w.setCell ⟨b, i, none⟩ u).heap[b]? = some (.cells (cs.setIfInBounds i u) t fr) := by
  have hlt := (Array.getElem?_eq_some_iff.1 h).1
  have h' : w.heap[b] = .cells cs t fr := by simpa [Array.getElem?_eq_getElem hlt] using h
  show (w.heap.modify b _)[b]? = _
  rw [Array.getElem?_eq_getElem (by simpa using hlt), Array.getElem_modify_self, h']
  rfl

/-- copy as one step of a region, the world written out -/
theorem step_copy_exact {P : Program} {ops : Array Oper} {o : Oper} {a : Act} {w : World} {K : Act → World → Prop} {Q : Exit → Act → World → Prop} {E : Prop} (hgd : o.guard = none) (d s : Operand) (dT sT : TypeId)
    (ho : o.op = .call { callee := .builtin .copy, args := #[d, s], argTypes := #[dT, sT] }) (elem : TypeId) (hu : P.underlying dT = some (.slice elem)) (hsz : (P.info? elem).map (·.size) = some 1)
    (g off dLen dCap : Nat) (ad : Addr) (sLen sCap : Nat) (hd : a.eval d = .slice (some ⟨g, off, none⟩) dLen dCap) (hs : a.eval s = .slice (some ad) sLen sCap)
    (cur : List Value) (t : TypeId) (hg : w.heap[g]? = some (.cells cur.toArray t (0, 0))) (cs : List Value) (hn : cs.length = Nat.min sLen dLen)
    (hsrc : ∀ j v, cs[j]? = some v → w.cell? (ad.add j) = some v)
    (hfit : off + cs.length ≤ cur.length) (h1 : ∀ v ∈ cs, v.oneCell' = true)
    (h : ∀ w', Hid (w' = w.setRow g (splice cur off cs).toArray) → K (a.put o.dst (goInt cs.length)) w') :
    if Region.wanted o (yielded ops a.tmps) = true then Oper.wp P o a w K Q else E := by
  have hw : Region.wanted o (yielded ops a.tmps) = true := by simp [Region.wanted, hgd]
  rw [if_pos hw]
  have hrun := run_copy_row (P := P) w dT sT o.type elem g off dLen dCap ad sLen sCap cur.toArray t cs hu hsz hg hn hsrc (by simpa using hfit) h1
  unfold Oper.wp
  simp [execOp, ho, resolve, invoke, builtin, hd, hs, hrun, Result.andThen]
  exact h _ (show _ = _ by simp [splice])
theorem size5 : (Ybaf.prog.info? 5).map (·.size) = some 1 := by kernel_rfl

set_option maxHeartbeats 1000000 in
theorem read_eof (rb sb n c k : Nat) (p ev : Value) (w : World) (hbox : w.heap[rb]? = some (.cells #[.slice (some ⟨sb, 0, none⟩) n c, .int .i64 k] 43 (0, 0))) (hk : n ≤ k) (hev : w.cell? ⟨1, 0, none⟩ = some ev) :
    Calls Ybaf.prog 49 #[.pointer (some ⟨rb, 0, none⟩), p] w fun e w' => e = .returned (.tuple #[.int .i64 0, ev]) ∧ Kept [] w w' := by
  have c0 : w.cell? ⟨rb, 0, none⟩ = some (.slice (some ⟨sb, 0, none⟩) n c) := by rw [box_cell hbox]; rfl
  have c1 : w.cell? ⟨rb, 1, none⟩ = some (.int .i64 k) := by rw [box_cell hbox]; rfl
  have hk' : (n : Int) ≤ (k : Int) := by omega
  clear hbox
  go_enter Ybaf.func49, Ybaf.ntmps49
  go_wp2
  go_quiet (fail)
  go_wp2
  go_quiet (fail)
  go_wp2
  go_ret2
  exact ⟨rfl, ((Kept.refl _ _).drewN' _).drewN' _⟩

/-- the bytes at hand, as cells -/
def Stream (w : World) (sb : Nat) (zs : List Value) : Prop := w.heap[sb]? = some (.cells zs.toArray 5 (0, 0)) ∧ ∀ u ∈ zs, u.oneCell' = true

set_option maxHeartbeats 1000000 in
theorem read_some (rb sb n c k pb po pl pc T : Nat) (zs cur : List Value) (w : World) (hbox : w.heap[rb]? = some (.cells #[.slice (some ⟨sb, 0, none⟩) n c, .int .i64 k] 43 (0, 0))) (hk : k < n) (hn : n ≤ c) (hc : c ≤ 2000)
    (hz : w.heap[sb]? = some (.cells zs.toArray 5 (0, 0))) (hone : ∀ u ∈ zs, u.oneCell' = true) (hzl : zs.length = c) (hp : w.heap[pb]? = some (.cells cur.toArray T (0, 0))) (hfit : po + pl ≤ cur.length) (h1 : rb ≠ pb) (m : Nat) (hm : m = Nat.min (n - k) pl) :
    Calls Ybaf.prog 49 #[.pointer (some ⟨rb, 0, none⟩), .slice (some ⟨pb, po, none⟩) pl pc] w fun e w' => e = .returned (.tuple #[.int .i64 m, .nilIface]) ∧
      w'.heap[rb]? = some (.cells #[.slice (some ⟨sb, 0, none⟩) n c, .int .i64 ((k + m : Nat) : Int)] 43 (0, 0)) ∧ w'.heap[pb]? = some (.cells (splice cur po ((zs.drop k).take m)).toArray T (0, 0)) ∧ Kept [rb, pb] w w' := by
  have c0 : w.cell? ⟨rb, 0, none⟩ = some (.slice (some ⟨sb, 0, none⟩) n c) := by rw [box_cell hbox]; rfl
  have c1 : w.cell? ⟨rb, 1, none⟩ = some (.int .i64 k) := by rw [box_cell hbox]; rfl
  have hk1 : (k : Int) < (n : Int) := by omega
  have hk2 : (n : Int) ≤ (c : Int) := by omega
  have hk3 : (c : Int) ≤ 2000 := by omega
  have hcl : ((zs.drop k).take m).length = Nat.min (n - k) pl := by rw [List.length_take, List.length_drop, hm]; show min (min (n - k) pl) (zs.length - k) = min (n - k) pl; omega
  have hm2 : m ≤ pl := by rw [hm]; exact Nat.min_le_right _ _
  have hm3 : m ≤ n - k := by rw [hm]; exact Nat.min_le_left _ _
  obtain ⟨cs, hcs⟩ : ∃ cs, cs = (zs.drop k).take m := ⟨_, rfl⟩
  have hone' : ∀ u ∈ cs, u.oneCell' = true := fun u hu => hone u (List.mem_of_mem_drop (List.mem_of_mem_take (by rw [hcs] at hu; exact hu)))
  have hsrc : ∀ j v, cs[j]? = some v → w.cell? (Addr.add ⟨sb, k, none⟩ j) = some v := fun j v hj => by
    rw [WideShapes.add_plain, box_cell hz]
    rw [hcs] at hj
    have hlt := (List.getElem?_eq_some_iff.1 hj).1
    rw [List.getElem?_take_of_lt (by rw [List.length_take] at hlt; omega), List.getElem?_drop] at hj
    simpa using hj
  rw [← hcs] at hcl ⊢
  have hkn : k ≤ n := by omega
  have hck : ¬ c = k := by omega
  have hcl2 : cs.length = m := by rw [hcl, hm]
  have BOX := hide' (hbox)
  have PB := hide' (hp)
  have HS := hide' (hsrc)
  have HO := hide' (hone')
  have HC := hide' (hcl)
  have hkm : (k : Int) + (m : Int) ≤ (n : Int) := by omega
  clear hcs hsrc hone' hz hp hbox hone hcl hm
  go_enter Ybaf.func49, Ybaf.ntmps49
  go_wp2
  go_quiet (fail)
  go_wp2
  go_region_law (refine step_copy_exact rfl (.tmp 18) (.tmp 27) 22 22 rfl 5 Ybaf.underlying22 size5 pb po pl pc ⟨sb, k, none⟩ (n - k) (c - k) rfl rfl cur T PB.out cs HC.out HS.out (by omega) HO.out ?_; intro w1 hw1; have e1 : w1.cell? ⟨rb, 1, none⟩ = some (.int .i64 k) := (World.cell?_of_block (by rw [hw1.out]; exact setRow_other _ _ _ _ h1)).trans c1; have f1 : w1.frozen? ⟨rb, 1, none⟩ = false := free_box (by rw [hw1.out]; exact (setRow_other _ _ _ _ h1).trans BOX.out))
  all_goals
    clear c0 c1
    go_wp2
    go_ret2
    have hrow : w1.heap[pb]? = some (.cells (splice cur po cs).toArray T (0, 0)) := by rw [hw1.out]; exact setRow_heap _ _ _ _ _ _ PB.out
    have hrb : w1.heap[rb]? = some (.cells #[.slice (some ⟨sb, 0, none⟩) n c, .int .i64 k] 43 (0, 0)) := by rw [hw1.out]; exact (setRow_other _ _ _ _ h1).trans BOX.out
    refine ⟨rfl, ?_, ?_, ?_⟩
    · rw [set_block hrb]
      rfl
    · rw [Below.heap_setCell _ _ _ _ (fun e => h1 e.symm)]
      exact hrow
    · rw [hw1.out]
      exact (((Kept.drewN _ _ _).setRow _ _ (by simp)).setCell _ _ (by simp))
end Go.Proofs.YbulkdswFmt
