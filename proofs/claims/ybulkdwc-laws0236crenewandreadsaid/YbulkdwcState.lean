/-
  Seat b0236a: what weightsAt's loops keep.
-/
import Derived.Test.YbulkdwcRen2
namespace Go.Proofs.Ybulkdwc
open Go.RowKit

/-- where all lies, and what was handed in -/
structure Cfg where
  B : Nat
  hb : Nat
  gb : Nat
  sb : Nat
  lb : Nat
  m : Nat
  an : Nat
  ac : Nat
  ao : Option Addr
  xs : Nat → Nat
  P : Nat → Nat
  rep : Nat → Bool
  last : Nat → Int
  wt : Nat → Nat
  ad : Nat → ByteArray
  gone : Nat → Bool
  now : Int
  ex : Int

def Cfg.ren (c : Cfg) (i : Nat) : Bool := !c.gone i && (c.rep i && decide (c.ex < c.now - c.last i))
def Cfg.cnt (c : Cfg) : Nat → Nat
  | 0 => 0
  | i + 1 => c.cnt i + (if c.ren i then 1 else 0)
def Cfg.logs (c : Cfg) : Nat → List En
  | 0 => []
  | i + 1 => c.logs i ++ (if c.ren i then [(82, c.ad i), (65, c.ad i)] else [])
def Cfg.rep' (c : Cfg) (i : Nat) : Bool := if c.ren i then false else c.rep i
def Cfg.wt' (c : Cfg) (i : Nat) : Nat := if c.ren i then addW c.xs c.an (c.cnt i) else c.wt i
def Cfg.lw (c : Cfg) (i0 i : Nat) : Array Value := lwCells (if i < i0 then c.rep' i else c.rep i) (c.last i) (if i < i0 then c.wt' i else c.wt i) (c.ad i) (c.gone i)
theorem Cfg.cnt_le (c : Cfg) : ∀ i, c.cnt i ≤ i
  | 0 => Nat.le_refl _
  | i + 1 => by
    have := c.cnt_le i
    unfold Cfg.cnt
    split <;> omega
theorem Cfg.logs_len (c : Cfg) : ∀ i, (c.logs i).length ≤ 2 * i
  | 0 => Nat.le_refl _
  | i + 1 => by
    have := c.logs_len i
    unfold Cfg.logs
    split <;> simp <;> omega

structure ST (c : Cfg) (mu : Int) (i0 k : Nat) (L : List En) (at_ : Int) (w : World) : Prop where
  hk : HK c.B w c.hb c.ao c.an c.ac k L at_
  ans : AnsAt c.B w c.ao c.an c.xs
  lws : ∀ i, i < c.m → w.heap[c.P i]? = some (.cells (c.lw i0 i) 78 (0, 0))
  row : ∃ ps : List Value, w.heap[c.lb]? = some (.cells ps.toArray 76 (0, 0)) ∧ ps.length = c.m ∧ ∀ i, i < c.m → ps[i]? = some (.pointer (some ⟨c.P i, 0, none⟩))
  g : w.heap[c.gb]? = some (.cells #[.int .i32 mu, .int .u32 0, .iface 58 (.pointer (some ⟨c.hb, 0, none⟩))] 72 (0, 0))
  s : w.heap[c.sb]? = some (.cells (seCells c.ex) 57 (0, 0))
  b1 : c.B ≤ w.heap.size
  b2 : c.B ≤ c.hb
  b3 : ∀ i, i < c.m → c.B ≤ c.P i
  b4 : c.B ≤ c.gb
  inj : ∀ i j, i < c.m → j < c.m → c.P i = c.P j → i = j
  la : ∀ i, i < c.m → -4000000000000 ≤ c.last i ∧ c.last i ≤ 4000000000000
  no : -4000000000000 ≤ c.now ∧ c.now ≤ 4000000000000
  ms : c.m ≤ 1024 ∧ c.an ≤ 1024

/-- what is left alone in all this -/
structure FrS (c : Cfg) (w w' : World) : Prop where
  os : w'.os = w.os
  tape : w'.tape = w.tape
  output : w'.output = w.output
  size : w.heap.size ≤ w'.heap.size
  block : ∀ k, k < w.heap.size → k ≠ c.hb → k ≠ c.gb → (∀ i, i < c.m → k ≠ c.P i) → (k < c.B ∨ ∃ cs t fr, w.heap[k]? = some (.cells cs t fr) ∧ t ≠ 81) → w'.heap[k]? = w.heap[k]?
theorem FrS.refl (c : Cfg) (w : World) : FrS c w w := ⟨rfl, rfl, rfl, Nat.le_refl _, fun _ _ _ _ _ _ => rfl⟩
theorem FrS.trans {c : Cfg} {x y z : World} (h : FrS c x y) (k : FrS c y z) : FrS c x z :=
  ⟨k.os.trans h.os, k.tape.trans h.tape, k.output.trans h.output, Nat.le_trans h.size k.size, fun i hi hn hm hp hc => by
    have h1 := h.block i hi hn hm hp hc
    rw [← h1]
    refine k.block i (Nat.lt_of_lt_of_le hi h.size) hn hm hp ?_
    rcases hc with hc | ⟨cs, t, fr, hc, ht⟩
    · exact .inl hc
    · exact .inr ⟨cs, t, fr, h1.trans hc, ht⟩⟩
theorem FrS.of_kept {c : Cfg} {x y : World} (h : Kept [] x y) : FrS c x y := ⟨h.os, h.tape, h.output, h.size, fun i hi _ _ _ _ => h.block i hi (by simp)⟩
theorem FrS.of_fr {c : Cfg} {x y : World} (h : Fr c.B c.hb x y) : FrS c x y := ⟨h.os, h.tape, h.output, h.size, fun i hi hn _ _ hc => h.block i hi hn hc⟩
theorem FrS.of_fr2 {c : Cfg} {x y : World} {i0 : Nat} (hi0 : i0 < c.m) (h : Fr2 c.B c.hb (c.P i0) x y) : FrS c x y := ⟨h.os, h.tape, h.output, h.size, fun i hi hn _ hp hc => h.block i hi hn (hp i0 hi0) hc⟩
theorem FrS.setG {c : Cfg} {x y : World} (h : FrS c x y) (i : Nat) (v : Value) : FrS c x (y.setCell ⟨c.gb, i, none⟩ v) :=
  ⟨h.os, h.tape, h.output, by simp [World.setCell]; exact h.size, fun k hk hn hm hp hc => (Below.heap_setCell _ _ _ _ hm).trans (h.block k hk hn hm hp hc)⟩

theorem ST.then {c : Cfg} {mu : Int} {i0 k : Nat} {L : List En} {at_ : Int} {w w' : World} (h : ST c mu i0 k L at_ w) (kp : Kept [] w w') : ST c mu i0 k L at_ w' := by
  obtain ⟨ps, r1, r2, r3⟩ := h.row
  exact ⟨h.hk.then kp, h.ans.then (Fr.of_kept (hb := c.hb) kp) h.b2, fun i hi => (kp.block _ (lt_box (h.lws i hi)) (by simp)).trans (h.lws i hi), ⟨ps, (kp.block _ (lt_box r1) (by simp)).trans r1, r2, r3⟩,
    (kp.block _ (lt_box h.g) (by simp)).trans h.g, (kp.block _ (lt_box h.s) (by simp)).trans h.s, Nat.le_trans h.b1 kp.size, h.b2, h.b3, h.b4, h.inj, h.la, h.no, h.ms⟩
theorem lw_same (c : Cfg) (i0 i : Nat) (h : c.ren i0 = false) : c.lw (i0 + 1) i = c.lw i0 i := by
  unfold Cfg.lw
  by_cases e : i = i0
  · subst e
    simp [Cfg.rep', Cfg.wt', h]
  · have : (i < i0 + 1) ↔ (i < i0) := by omega
    simp [this]
theorem lw_other (c : Cfg) (i0 i : Nat) (h : i ≠ i0) : c.lw (i0 + 1) i = c.lw i0 i := by
  unfold Cfg.lw
  have : (i < i0 + 1) ↔ (i < i0) := by omega
  simp [this]
theorem ST.skip {c : Cfg} {mu : Int} {i0 : Nat} {at_ : Int} {w w' : World} (h : ST c mu i0 (c.cnt i0) (c.logs i0) at_ w) (hr : c.ren i0 = false) (kp : Kept [] w w') : ST c mu (i0 + 1) (c.cnt (i0 + 1)) (c.logs (i0 + 1)) at_ w' := by
  have h2 := h.then kp
  have e1 : c.cnt (i0 + 1) = c.cnt i0 := by simp [Cfg.cnt, hr]
  have e2 : c.logs (i0 + 1) = c.logs i0 := by simp [Cfg.logs, hr]
  rw [e1, e2]
  exact { h2 with lws := fun i hi => by rw [lw_same c i0 i hr]; exact h2.lws i hi }
theorem ST.renewed {c : Cfg} {mu : Int} {i0 : Nat} {at_ : Int} {w w' : World} (h : ST c mu i0 (c.cnt i0) (c.logs i0) at_ w) (hi0 : i0 < c.m) (hr : c.ren i0 = true)
    (hl : w'.heap[c.P i0]? = some (.cells (lwCells false (c.last i0) (addW c.xs c.an (c.cnt i0)) (c.ad i0) false) 78 (0, 0))) (hk : HK c.B w' c.hb c.ao c.an c.ac (c.cnt i0 + 1) (c.logs i0 ++ [(82, c.ad i0), (65, c.ad i0)]) at_) (fr : Fr2 c.B c.hb (c.P i0) w w') :
    ST c mu (i0 + 1) (c.cnt (i0 + 1)) (c.logs (i0 + 1)) at_ w' := by
  have hg : c.gone i0 = false := by
    unfold Cfg.ren at hr
    cases hgg : c.gone i0
    · rfl
    · rw [hgg] at hr
      simp at hr
  obtain ⟨ps, r1, r2, r3⟩ := h.row
  have e1 : c.cnt (i0 + 1) = c.cnt i0 + 1 := by simp [Cfg.cnt, hr]
  have e2 : c.logs (i0 + 1) = c.logs i0 ++ [(82, c.ad i0), (65, c.ad i0)] := by simp [Cfg.logs, hr]
  rw [e1, e2]
  have kept : ∀ (x : Nat) (C : Array Value) (t : TypeId), w.heap[x]? = some (Obj.cells C t (0, 0)) → t ≠ 61 → t ≠ 78 → t ≠ 81 → w'.heap[x]? = some (Obj.cells C t (0, 0)) := fun x C t hx h1 h2 h3 => by
    refine (fr.block x (lt_box hx) (h.hk.ne hx h1) ?_ (.inr ⟨_, _, _, hx, h3⟩)).trans hx
    rintro rfl
    rw [h.lws i0 hi0] at hx
    simp at hx
    exact h2 hx.2.symm
  refine ⟨hk, ?_, fun i hi => ?_, ⟨ps, kept _ _ _ r1 (by decide) (by decide) (by decide), r2, r3⟩, kept _ _ _ h.g (by decide) (by decide) (by decide), kept _ _ _ h.s (by decide) (by decide) (by decide), Nat.le_trans h.b1 fr.size, h.b2, h.b3, h.b4, h.inj, h.la, h.no, h.ms⟩
  · intro hp
    obtain ⟨b, off, e, a1, a2, a3⟩ := h.ans hp
    refine ⟨b, off, e, a1, Nat.lt_of_lt_of_le a2 fr.size, fun j hj => ?_⟩
    rw [World.cell?_of_block (fr.block b a2 (by have := h.b2; omega) (by have := h.b3 i0 hi0; omega) (.inl a1))]
    exact a3 j hj
  · by_cases e : i = i0
    · subst e
      rw [hl]
      simp [Cfg.lw, Cfg.rep', Cfg.wt', hr, hg]
    · rw [lw_other c i0 i e]
      have hx := h.lws i hi
      exact (fr.block _ (lt_box hx) (h.hk.ne hx (by decide)) (fun ee => e (h.inj i i0 hi hi0 ee)) (.inr ⟨_, 78, _, hx, by decide⟩)).trans hx

theorem FrS.setNew {c : Cfg} {x y : World} (h : FrS c x y) (b i : Nat) (v : Value) (hb : x.heap.size ≤ b) : FrS c x (y.setCell ⟨b, i, none⟩ v) :=
  ⟨h.os, h.tape, h.output, by simp [World.setCell]; exact h.size, fun k hk hn hm hp hc => (Below.heap_setCell y ⟨b, i, none⟩ v k (by show k ≠ b; omega)).trans (h.block k hk hn hm hp hc)⟩

theorem HK.setOther {B : Nat} {wx : World} {hb x i : Nat} {v : Value} {ao : Option Addr} {an ac k : Nat} {L : List En} {at_ : Int} {C : Array Value} {t : TypeId} (h : HK B wx hb ao an ac k L at_) (hl : wx.heap[x]? = some (.cells C t (0, 0))) (h1 : t ≠ 61) (h2 : t ≠ 81) : HK B (wx.setCell ⟨x, i, none⟩ v) hb ao an ac k L at_ := by
  have hne := h.ne hl h1
  obtain ⟨lv, hh, own⟩ := h
  refine ⟨lv, (Below.heap_setCell _ _ _ _ (Ne.symm hne)).trans hh, own.1, ?_⟩
  rcases own.2 with e | ⟨g, cap, cur, e, hB, hg, r⟩
  · exact .inl e
  · have hne2 : g ≠ x := by
      rintro rfl
      rw [hg] at hl
      simp at hl
      exact h2 hl.2.symm
    exact .inr ⟨g, cap, cur, e, hB, (Below.heap_setCell _ _ _ _ hne2).trans hg, r⟩

/-- a store into a block of another kind -/
theorem ST.setOther {c : Cfg} {mu : Int} {i0 k : Nat} {L : List En} {at_ : Int} {w : World} {x i : Nat} {v : Value} {C : Array Value} {t : TypeId} (h : ST c mu i0 k L at_ w) (hx : w.heap[x]? = some (.cells C t (0, 0))) (hB : c.B ≤ x)
    (ht : t ≠ 61 ∧ t ≠ 81 ∧ t ≠ 78 ∧ t ≠ 76 ∧ t ≠ 72 ∧ t ≠ 57) : ST c mu i0 k L at_ (w.setCell ⟨x, i, none⟩ v) := by
  have ne : ∀ (y : Nat) (D : Array Value) (u : TypeId), w.heap[y]? = some (Obj.cells D u (0, 0)) → t ≠ u → y ≠ x := fun y D u hy hu => by
    rintro rfl
    rw [hx] at hy
    simp at hy
    exact hu hy.2
  obtain ⟨ps, r1, r2, r3⟩ := h.row
  refine ⟨h.hk.setOther hx ht.1 ht.2.1, ?_, fun j hj => (Below.heap_setCell _ _ _ _ (ne _ _ _ (h.lws j hj) ht.2.2.1)).trans (h.lws j hj), ⟨ps, (Below.heap_setCell _ _ _ _ (ne _ _ _ r1 ht.2.2.2.1)).trans r1, r2, r3⟩,
    (Below.heap_setCell _ _ _ _ (ne _ _ _ h.g ht.2.2.2.2.1)).trans h.g, (Below.heap_setCell _ _ _ _ (ne _ _ _ h.s ht.2.2.2.2.2)).trans h.s, by simp [World.setCell]; exact h.b1, h.b2, h.b3, h.b4, h.inj, h.la, h.no, h.ms⟩
  exact h.ans.setLw hB
/-- the lock taken, the lock freed -/
theorem ST.lock {c : Cfg} {mu mu' : Int} {i0 k : Nat} {L : List En} {at_ : Int} {w : World} (h : ST c mu i0 k L at_ w) : ST c mu' i0 k L at_ (w.setCell ⟨c.gb, 0, none⟩ (.int .i32 mu')) := by
  have hx := h.g
  have ne : ∀ (y : Nat) (D : Array Value) (u : TypeId), w.heap[y]? = some (Obj.cells D u (0, 0)) → (72 : TypeId) ≠ u → y ≠ c.gb := fun y D u hy hu => by
    rintro rfl
    rw [hx] at hy
    simp at hy
    exact hu hy.2
  obtain ⟨ps, r1, r2, r3⟩ := h.row
  refine ⟨h.hk.setOther hx (by decide) (by decide), ?_, fun j hj => (Below.heap_setCell _ _ _ _ (ne _ _ _ (h.lws j hj) (by decide))).trans (h.lws j hj), ⟨ps, (Below.heap_setCell _ _ _ _ (ne _ _ _ r1 (by decide))).trans r1, r2, r3⟩,
    ?_, (Below.heap_setCell _ _ _ _ (ne _ _ _ h.s (by decide))).trans h.s, by simp [World.setCell]; exact h.b1, h.b2, h.b3, h.b4, h.inj, h.la, h.no, h.ms⟩
  · exact h.ans.setLw h.b4
  · rw [set_block hx]
    rfl
/-- the hooks have been told of a rebuild -/
theorem ST.told {c : Cfg} {mu : Int} {i0 k k' : Nat} {L L' : List En} {at_ at' : Int} {w w' : World} (h : ST c mu i0 k L at_ w) (hk : HK c.B w' c.hb c.ao c.an c.ac k' L' at') (fr : Fr c.B c.hb w w') : ST c mu i0 k' L' at' w' := by
  have kept : ∀ (x : Nat) (C : Array Value) (t : TypeId), w.heap[x]? = some (Obj.cells C t (0, 0)) → t ≠ 61 → t ≠ 81 → w'.heap[x]? = some (Obj.cells C t (0, 0)) := fun x C t hx h1 h3 =>
    (fr.block x (lt_box hx) (h.hk.ne hx h1) (.inr ⟨_, _, _, hx, h3⟩)).trans hx
  obtain ⟨ps, r1, r2, r3⟩ := h.row
  exact ⟨hk, h.ans.then fr h.b2, fun j hj => kept _ _ _ (h.lws j hj) (by decide) (by decide), ⟨ps, kept _ _ _ r1 (by decide) (by decide), r2, r3⟩, kept _ _ _ h.g (by decide) (by decide), kept _ _ _ h.s (by decide) (by decide), Nat.le_trans h.b1 fr.size, h.b2, h.b3, h.b4, h.inj, h.la, h.no, h.ms⟩
/-- a block of another kind is left alone -/
theorem FrS.other {c : Cfg} {mu : Int} {i0 k : Nat} {L : List En} {at_ : Int} {w w' : World} {x : Nat} {C : Array Value} {t : TypeId} (f : FrS c w w') (h : ST c mu i0 k L at_ w) (hx : w.heap[x]? = some (.cells C t (0, 0)))
    (ht : t ≠ 61 ∧ t ≠ 81 ∧ t ≠ 78 ∧ t ≠ 72) : w'.heap[x]? = some (.cells C t (0, 0)) := by
  refine (f.block x (lt_box hx) (h.hk.ne hx ht.1) ?_ ?_ (.inr ⟨_, _, _, hx, ht.2.1⟩)).trans hx
  · rintro rfl
    rw [h.g] at hx
    simp at hx
    exact ht.2.2.2 hx.2.symm
  · intro i hi
    rintro rfl
    rw [h.lws i hi] at hx
    simp at hx
    exact ht.2.2.1 hx.2.symm
end Go.Proofs.Ybulkdwc
