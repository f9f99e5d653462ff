/-
  Seat b0236a: the law's walk (5).
-/
import Derived.Test.YbulkdwcEnt
namespace Go.Proofs.Ybulkdwc
open Go.RowKit

@[go_sem] theorem run_store_flt {P : Program} {w : World} {a : Addr} {m : Mode} (k : FloatKind) (b : Nat) : (store a (.float k b) m).run P w = stored P w a (.float k b) m := run_store P w a _ m rfl

/-- the backends handed in -/
def BsAt (w : World) (a : Option Addr) (m : Nat) (ad : Nat → ByteArray) (gone rep : Nat → Bool) (la : Nat → Int) (wt : Nat → Nat) : Prop :=
  0 < m → ∃ b off, a = some ⟨b, off, none⟩ ∧ b < w.heap.size ∧ ∀ i, i < m → w.cell? ⟨b, off + i * 5, none⟩ = some (.string (ad i)) ∧ w.cell? ⟨b, off + i * 5 + 1, none⟩ = some (.bool (gone i)) ∧ w.cell? ⟨b, off + i * 5 + 2, none⟩ = some (.bool (rep i)) ∧
    w.cell? ⟨b, off + i * 5 + 3, none⟩ = some (.int .i64 (la i)) ∧ w.cell? ⟨b, off + i * 5 + 4, none⟩ = some (.float .f64 (wt i))

theorem span_in (x : Int) : -1099511627776 < x.tmod 1099511627776 ∧ x.tmod 1099511627776 < 1099511627776 := by
  constructor
  · have h := Int.tmod_lt_of_pos (-x) (show (0 : Int) < 1099511627776 by omega)
    rw [Int.neg_tmod] at h
    omega
  · exact Int.tmod_lt_of_pos x (by omega)

theorem one_more (w : World) (C : Array Value) (t : TypeId) : ∃ W, W = w.alloc (.cells C t) ∧ W.heap[w.heap.size]? = some (.cells C t (0, 0)) ∧ Kept [] w W := ⟨_, rfl, heap_alloc_new _ _, (Kept.refl _ _).alloc _⟩

theorem add0_any (d : Int) (W : World) (h1 : -4000000000000 ≤ d) (h2 : d ≤ 4000000000000) : Calls Yba.prog 8 #[.agg #[.int .u64 0, .int .i64 0, .pointer none], .int .i64 d] W fun e w' => e = .returned (.agg #[.int .u64 (d % 1000000000), .int .i64 (d / 1000000000), .pointer none]) ∧ Kept [] W w' := by
  have h := add_any 0 d W (by omega) (by omega) (by omega) (by omega)
  rw [Int.zero_add] at h
  exact h

/-- the four blocks ahead of the loop -/
structure Four (w W : World) (now ex : Int) (ao : Option Addr) (an ac : Nat) : Prop where
  n : W.heap[w.heap.size]? = some (.cells (tmCells now) 46 (0, 0))
  s : W.heap[w.heap.size + 1]? = some (.cells (seCells ex) 57 (0, 0))
  h : W.heap[w.heap.size + 1 + 1]? = some (.cells #[.slice ao an ac, .int .i64 0, .slice none 0 0, .int .u64 0, .int .i64 0, .pointer none] 61 (0, 0))
  g : W.heap[w.heap.size + 1 + 1 + 1]? = some (.cells #[.int .i32 0, .int .u32 0, .iface 58 (.pointer (some ⟨w.heap.size + 1 + 1, 0, none⟩))] 72 (0, 0))
  k : Kept [] w W
theorem four_of (w : World) (now ex : Int) (ao : Option Addr) (an ac : Nat) : ∃ W, W = (((w.alloc (.cells #[.int .u64 (now % 1000000000), .int .i64 (now / 1000000000), .pointer none] 46)).alloc (.cells #[.int .i64 0, .int .i64 ex, .int .i64 0, .float .f64 0, .bool false, .int .i64 0, .nilFunc, .nilIface, .nilIface] 57)).alloc
    (.cells #[.slice ao an ac, .int .i64 0, .slice none 0 0, .int .u64 0, .int .i64 0, .pointer none] 61)).alloc (.cells #[.int .i32 0, .int .u32 0, .iface 58 (.pointer (some ⟨w.heap.size + 1 + 1, 0, none⟩))] 72) ∧ Four w W now ex ao an ac := by
  refine ⟨_, rfl, ?_, ?_, ?_, ?_, ((((Kept.refl _ _).alloc _).alloc _).alloc _).alloc _⟩
  · rw [Below.heap_alloc _ _ _ (by simp <;> omega), Below.heap_alloc _ _ _ (by simp <;> omega), Below.heap_alloc _ _ _ (by simp)]
    exact heap_alloc_new _ _
  · rw [Below.heap_alloc _ _ _ (by simp <;> omega), Below.heap_alloc _ _ _ (by simp)]
    have e : (w.alloc (.cells #[.int .u64 (now % 1000000000), .int .i64 (now / 1000000000), .pointer none] 46)).heap.size = w.heap.size + 1 := by simp
    rw [← e]
    exact heap_alloc_new _ _
  · rw [Below.heap_alloc _ _ _ (by simp)]
    have e : ((w.alloc (.cells #[.int .u64 (now % 1000000000), .int .i64 (now / 1000000000), .pointer none] 46)).alloc (.cells #[.int .i64 0, .int .i64 ex, .int .i64 0, .float .f64 0, .bool false, .int .i64 0, .nilFunc, .nilIface, .nilIface] 57)).heap.size = w.heap.size + 1 + 1 := by simp
    conv => lhs; rw [← e]
    exact heap_alloc_new _ _
  · have e : (((w.alloc (.cells #[.int .u64 (now % 1000000000), .int .i64 (now / 1000000000), .pointer none] 46)).alloc (.cells #[.int .i64 0, .int .i64 ex, .int .i64 0, .float .f64 0, .bool false, .int .i64 0, .nilFunc, .nilIface, .nilIface] 57)).alloc
        (.cells #[.slice ao an ac, .int .i64 0, .slice none 0 0, .int .u64 0, .int .i64 0, .pointer none] 61)).heap.size = w.heap.size + 1 + 1 + 1 := by simp
    conv => lhs; rw [← e]
    exact heap_alloc_new _ _

theorem info76 : (Yba.prog.info? 76).map (fun i => (i.zero, i.size, i.bytes)) = some (some (.pointer none), 1, 8) := by kernel_rfl
theorem make_ptrs (w : World) (m : Nat) (hn : m ≤ 1024) : ∃ w', (Instr.makeSlice 73 (.int .i64 (m : Int)) (.int .i64 (m : Int))).run Yba.prog w = .ok (.slice (some ⟨w.heap.size, 0, none⟩) m m) w' ∧ (∃ ps : List Value, w'.heap[w.heap.size]? = some (.cells ps.toArray 76 (0, 0)) ∧ ps.length = m) ∧ Kept [] w w' := by
  obtain ⟨i0, hi, hz0, hz1, hz2⟩ := info_parts info76
  have h := run_makeSlice (P := Yba.prog) w 73 76 i0 (.pointer none) Yba.underlying73 hi hz0 .i64 .i64 m m (by omega) (Int.le_refl _) (by rw [hz1]; omega) (by rw [hz2]; omega) (by omega)
  rw [Int.toNat_natCast, hz1] at h
  refine ⟨_, h, ⟨(madeCells (Value.pointer none).cells (m * 1)).toList, by simpa using heap_alloc_new _ _, ?_⟩, (Kept.refl _ _).alloc _⟩
  simp [size_madeCells]

/-- the load weights' row and blocks, made up to i -/
def Made (W0 wx : World) (lb m i : Nat) (P : Nat → Nat) (ad : Nat → ByteArray) (gone rep : Nat → Bool) (la : Nat → Int) (wt : Nat → Nat) : Prop :=
  (∃ ps : List Value, wx.heap[lb]? = some (.cells ps.toArray 76 (0, 0)) ∧ ps.length = m ∧ ∀ t, t < i → ps[t]? = some (.pointer (some ⟨P t, 0, none⟩))) ∧
  (∀ t, t < i → wx.heap[P t]? = some (.cells (lwCells (rep t) ((la t).tmod 1099511627776) (wt t) (ad t) (gone t)) 78 (0, 0))) ∧ (∀ t, t < i → W0.heap.size ≤ P t) ∧ (∀ s t, s < i → t < i → P s = P t → s = t) ∧ Kept [lb] W0 wx
def updP (P : Nat → Nat) (i b : Nat) : Nat → Nat := fun t => if t = i then b else P t
theorem Made.next {W0 wx wy : World} {lb m i b : Nat} {P : Nat → Nat} {ad : Nat → ByteArray} {gone rep : Nat → Bool} {la : Nat → Int} {wt : Nat → Nat} (h : Made W0 wx lb m i P ad gone rep la wt) (hi : i < m) (hl : lb < W0.heap.size)
    (k : Kept [] wx wy) (hb : wy.heap[b]? = some (.cells (lwCells (rep i) ((la i).tmod 1099511627776) (wt i) (ad i) (gone i)) 78 (0, 0))) (hbn : wx.heap.size ≤ b) :
    Made W0 (wy.setCell ⟨lb, i, none⟩ (.pointer (some ⟨b, 0, none⟩))) lb m (i + 1) (updP P i b) ad gone rep la wt := by
  obtain ⟨⟨ps, r1, r2, r3⟩, h2, h3, h4, h5⟩ := h
  have r1' := (k.block lb (lt_box r1) (by simp)).trans r1
  have hlb : ∀ x C, wy.heap[x]? = some (Obj.cells C 78 (0, 0)) → x ≠ lb := fun x C hx => by
    rintro rfl
    rw [r1'] at hx
    simp at hx
  have hlt : ∀ t, t < i → P t < wx.heap.size := fun t ht => lt_box (h2 t ht)
  refine ⟨⟨ps.set i (.pointer (some ⟨b, 0, none⟩)), by rw [set_block r1']; simp, by simpa using r2, fun t ht => ?_⟩, fun t ht => ?_, fun t ht => ?_, fun s t hs ht e => ?_, ?_⟩
  · by_cases e : t = i
    · subst e
      rw [List.getElem?_set_self (by omega)]
      simp [updP]
    · rw [List.getElem?_set_ne (Ne.symm e)]
      simpa [updP, e] using r3 t (by omega)
  · by_cases e : t = i
    · subst e
      have e2 : updP P t b t = b := by simp [updP]
      rw [e2, Below.heap_setCell _ _ _ _ (hlb _ _ hb)]
      exact hb
    · have e2 : updP P i b t = P t := by simp [updP, e]
      have hx := (k.block _ (hlt t (by omega)) (by simp)).trans (h2 t (by omega))
      rw [e2, Below.heap_setCell _ _ _ _ (hlb _ _ hx)]
      exact hx
  · by_cases e : t = i
    · have := h5.size
      simp [updP, e]
      omega
    · simpa [updP, e] using h3 t (by omega)
  · by_cases e1 : s = i
    · by_cases e2 : t = i
      · omega
      · have := hlt t (by omega)
        simp [updP, e1, e2] at e
        omega
    · by_cases e2 : t = i
      · have := hlt s (by omega)
        simp [updP, e1, e2] at e
        omega
      · simp [updP, e1, e2] at e
        exact h4 s t (by omega) (by omega) e
  · exact (h5.then k (by simp)).setCell _ _ (by simp)

theorem Made.then {W0 wx wy : World} {lb m i : Nat} {P : Nat → Nat} {ad : Nat → ByteArray} {gone rep : Nat → Bool} {la : Nat → Int} {wt : Nat → Nat} (h : Made W0 wx lb m i P ad gone rep la wt) (k : Kept [] wx wy) : Made W0 wy lb m i P ad gone rep la wt := by
  obtain ⟨⟨ps, r1, r2, r3⟩, h2, h3, h4, h5⟩ := h
  exact ⟨⟨ps, (k.block lb (lt_box r1) (by simp)).trans r1, r2, r3⟩, fun t ht => (k.block _ (lt_box (h2 t ht)) (by simp)).trans (h2 t ht), h3, h4, h5.then k (by simp)⟩
theorem Made.push {W0 wx w2 : World} {lb m i : Nat} {P : Nat → Nat} {ad : Nat → ByteArray} {gone rep : Nat → Bool} {la : Nat → Int} {wt : Nat → Nat} (h : Made W0 wx lb m i P ad gone rep la wt) (hi : i < m) (hl : lb < W0.heap.size) (k : Kept [] wx w2) :
    Made W0 ((w2.setCell ⟨lb, i, none⟩ (.pointer (some ⟨w2.heap.size, 0, none⟩))).alloc (.cells (lwCells (rep i) ((la i).tmod 1099511627776) (wt i) (ad i) (gone i)) 78)) lb m (i + 1) (updP P i w2.heap.size) ad gone rep la wt := by
  have hlb : lb < w2.heap.size := by
    have := h.2.2.2.2.size
    have := k.size
    omega
  have := h.next hi hl (k.then ((Kept.refl [] w2).alloc (.cells (lwCells (rep i) ((la i).tmod 1099511627776) (wt i) (ad i) (gone i)) 78)) (by simp)) (heap_alloc_new _ _) k.size
  rw [World.setCell_alloc_past _ _ _ _ hlb] at this
  exact this

/-- the state in which weightsAt is called -/
theorem law_state {w w5 wr : World} {nb lb m an ac : Nat} {ao : Option Addr} {P : Nat → Nat} {ad : Nat → ByteArray} {gone rep : Nat → Bool} {la : Nat → Int} {wt xs : Nat → Nat} {now ex : Int} (hm : m ≤ 1024) (hn : an ≤ 1024) (h1 : -1099511627776 < now) (h2 : now < 1099511627776)
    (M : Made w5 wr lb m m P ad gone rep la wt) (K5 : Kept [] w w5) (HA : AnsAt w.heap.size w ao an xs) (hnB : w.heap.size ≤ nb) (hlw : w.heap.size ≤ lb) (hlb : nb + 1 + 1 + 1 < lb)
    (FS : w5.heap[nb + 1]? = some (.cells (seCells ex) 57 (0, 0))) (FH : w5.heap[nb + 1 + 1]? = some (.cells #[.slice ao an ac, .int .i64 0, .slice none 0 0, .int .u64 0, .int .i64 0, .pointer none] 61 (0, 0)))
    (FG : w5.heap[nb + 1 + 1 + 1]? = some (.cells #[.int .i32 0, .int .u32 0, .iface 58 (.pointer (some ⟨nb + 1 + 1, 0, none⟩))] 72 (0, 0))) :
    ST { B := w.heap.size, hb := nb + 1 + 1, gb := nb + 1 + 1 + 1, sb := nb + 1, lb := lb, m := m, an := an, ac := ac, ao := ao, xs := xs, P := P, rep := rep, last := fun t => (la t).tmod 1099511627776, wt := wt, ad := ad, gone := gone, now := now, ex := ex } 0 0 0 [] 0 wr ∧ Kept [] w wr := by
  obtain ⟨hrow, h2', h3, h4, h5⟩ := M
  have hkk : Kept [] w wr := ⟨h5.os.trans K5.os, h5.tape.trans K5.tape, h5.output.trans K5.output, Nat.le_trans K5.size h5.size, fun k hk _ => (h5.block k (Nat.lt_of_lt_of_le hk K5.size) (by simp; omega)).trans (K5.block k hk (by simp))⟩
  have kp : ∀ (x : Nat) (o : Obj), w5.heap[x]? = some o → x ≠ lb → wr.heap[x]? = some o := fun x o hx hne => (h5.block x (lt_box hx) (by simpa using hne)).trans hx
  refine ⟨⟨⟨.slice none 0 0, kp (nb + 1 + 1) _ FH (by omega), rfl, .inl ⟨rfl, rfl⟩⟩, HA.then (Fr.of_kept (hb := nb + 1 + 1) hkk) (by show w.heap.size ≤ nb + 1 + 1; omega), fun i hi => ?_, hrow, kp (nb + 1 + 1 + 1) _ FG (by omega), kp (nb + 1) _ FS (by omega), hkk.size, by show w.heap.size ≤ nb + 1 + 1; omega, fun i hi => ?_, by show w.heap.size ≤ nb + 1 + 1 + 1; omega, h4, fun i hi => ?_, ?_, ⟨hm, hn⟩⟩, hkk⟩
  · have := h2' i hi
    simpa [Cfg.lw] using this
  · have := h3 i hi
    have := K5.size
    show w.heap.size ≤ P i
    omega
  · have := span_in (la i)
    show -4000000000000 ≤ (la i).tmod 1099511627776 ∧ (la i).tmod 1099511627776 ≤ 4000000000000
    omega
  · show -4000000000000 ≤ now ∧ now ≤ 4000000000000
    omega

theorem own_kept {B : Nat} {w w' : World} {v : Value} {n : Nat} {xs : List Value} (h : w.ownsRow B 81 2 v n xs) (k : Kept [] w w') : w'.ownsRow B 81 2 v n xs := by
  refine ⟨h.1, ?_⟩
  rcases h.2 with e | ⟨g, cap, cur, e, hB, hg, r⟩
  · exact .inl e
  · exact .inr ⟨g, cap, cur, e, hB, (k.block _ (lt_box hg) (by simp)).trans hg, r⟩
theorem kept_grown {w6 Wb w1 : World} {X : Obj} {v : Value} {n : Nat} {xs : List Value} (own : Wb.ownsRow w6.heap.size 81 2 v n xs) (h : (Wb.alloc X).grownBy w1 v.ownBlock) (k : Kept [] w6 Wb) : Kept [] w6 w1 := by
  have ka := k.alloc X
  refine ⟨h.os.trans ka.os, h.tape.trans ka.tape, h.output.trans ka.output, Nat.le_trans ka.size h.size, fun x hx _ => (h.block x (Nat.lt_of_lt_of_le hx ka.size) ?_).trans (ka.block x hx (by simp))⟩
  intro e
  rcases own.2 with ⟨rfl, _⟩ | ⟨g, cap, cur, rfl, hB, hg, _⟩
  · cases e
  · have e' : x = g := by simpa [Value.ownBlock] using e
    omega
theorem box_grown {B : Nat} {Wb w1 : World} {X : Obj} {v : Value} {n bb : Nat} {xs : List Value} {C : Array Value} {t : TypeId} (own : Wb.ownsRow B 81 2 v n xs) (h : (Wb.alloc X).grownBy w1 v.ownBlock) (hb : Wb.heap[bb]? = some (.cells C t (0, 0))) (ht : t ≠ 81) : w1.heap[bb]? = some (.cells C t (0, 0)) := by
  refine (h.block bb (by simp; have := lt_box hb; omega) ?_).trans ((Below.heap_alloc _ _ _ (lt_box hb)).trans hb)
  intro e
  rcases own.2 with ⟨rfl, _⟩ | ⟨g, cap, cur, rfl, hB, hg, _⟩
  · cases e
  · have e' : bb = g := by simpa [Value.ownBlock] using e
    subst e'
    rw [hg] at hb
    simp at hb
    exact ht hb.2.symm
/-- math.Float64bits (10) -/
theorem bits_run (b : Nat) (w : World) : (callFunc 10 #[.float .f64 b]).run Yba.prog w = .ok (.value (.int .u64 b)) w :=
  (run_callFunc_extern Yba.func10 (by kernel_rfl) (by kernel_rfl) (by kernel_rfl) (e := Go.Extern.MathFloatBits.float64bits) (by kernel_rfl) #[.float .f64 b] w).trans rfl
theorem s8_alloc {w : World} {o : Obj} {p0 p1 p2 p3 p4 p5 p6 p7 : Addr} {v0 v1 v2 v3 v4 v5 v6 v7 : Value} (h : w.cell? p0 = some v0 ∧ w.cell? p1 = some v1 ∧ w.cell? p2 = some v2 ∧ w.cell? p3 = some v3 ∧ w.cell? p4 = some v4 ∧ w.cell? p5 = some v5 ∧ w.cell? p6 = some v6 ∧ w.cell? p7 = some v7) :
    (w.alloc o).cell? p0 = some v0 ∧ (w.alloc o).cell? p1 = some v1 ∧ (w.alloc o).cell? p2 = some v2 ∧ (w.alloc o).cell? p3 = some v3 ∧ (w.alloc o).cell? p4 = some v4 ∧ (w.alloc o).cell? p5 = some v5 ∧ (w.alloc o).cell? p6 = some v6 ∧ (w.alloc o).cell? p7 = some v7 := by
  obtain ⟨h0, h1, h2, h3, h4, h5, h6, h7⟩ := h
  have far : ∀ (p : Addr) (v : Value), w.cell? p = some v → (w.alloc o).cell? p = some v := fun p v hp => (World.cell?_alloc_some w p o (by rw [hp]; rfl)).trans hp
  exact ⟨far _ _ h0, far _ _ h1, far _ _ h2, far _ _ h3, far _ _ h4, far _ _ h5, far _ _ h6, far _ _ h7⟩
theorem s8_set {w : World} {q : Addr} {u : Value} {p0 p1 p2 p3 p4 p5 p6 p7 : Addr} {v0 v1 v2 v3 v4 v5 v6 v7 : Value} (h : w.cell? p0 = some v0 ∧ w.cell? p1 = some v1 ∧ w.cell? p2 = some v2 ∧ w.cell? p3 = some v3 ∧ w.cell? p4 = some v4 ∧ w.cell? p5 = some v5 ∧ w.cell? p6 = some v6 ∧ w.cell? p7 = some v7)
    (n0 : q.block ≠ p0.block) (n1 : q.block ≠ p1.block) (n2 : q.block ≠ p2.block) (n3 : q.block ≠ p3.block) (n4 : q.block ≠ p4.block) (n5 : q.block ≠ p5.block) (n6 : q.block ≠ p6.block) (n7 : q.block ≠ p7.block) :
    (w.setCell q u).cell? p0 = some v0 ∧ (w.setCell q u).cell? p1 = some v1 ∧ (w.setCell q u).cell? p2 = some v2 ∧ (w.setCell q u).cell? p3 = some v3 ∧ (w.setCell q u).cell? p4 = some v4 ∧ (w.setCell q u).cell? p5 = some v5 ∧ (w.setCell q u).cell? p6 = some v6 ∧ (w.setCell q u).cell? p7 = some v7 := by
  obtain ⟨h0, h1, h2, h3, h4, h5, h6, h7⟩ := h
  have far : ∀ p : Addr, q.block ≠ p.block → (w.setCell q u).cell? p = w.cell? p := fun p hp => World.cell?_of_block (Below.heap_setCell w q u p.block (Ne.symm hp))
  exact ⟨(far _ n0).trans h0, (far _ n1).trans h1, (far _ n2).trans h2, (far _ n3).trans h3, (far _ n4).trans h4, (far _ n5).trans h5, (far _ n6).trans h6, (far _ n7).trans h7⟩

theorem s8_kept {w w2 : World} {x y : Nat} {v0 v1 v2 v3 v4 v5 v6 v7 : Value} (h : w.cell? ⟨x, 0, none⟩ = some v0 ∧ w.cell? ⟨x, 1, none⟩ = some v1 ∧ w.cell? ⟨x, 2, none⟩ = some v2 ∧ w.cell? ⟨y, 0, none⟩ = some v3 ∧ w.cell? ⟨y, 1, none⟩ = some v4 ∧ w.cell? ⟨y, 2, none⟩ = some v5 ∧ w.cell? ⟨y, 3, none⟩ = some v6 ∧ w.cell? ⟨y, 4, none⟩ = some v7) (k : Kept [] w.drew w2) (hx : x < w.heap.size) (hy : y < w.heap.size) :
    w2.cell? ⟨x, 0, none⟩ = some v0 ∧ w2.cell? ⟨x, 1, none⟩ = some v1 ∧ w2.cell? ⟨x, 2, none⟩ = some v2 ∧ w2.cell? ⟨y, 0, none⟩ = some v3 ∧ w2.cell? ⟨y, 1, none⟩ = some v4 ∧ w2.cell? ⟨y, 2, none⟩ = some v5 ∧ w2.cell? ⟨y, 3, none⟩ = some v6 ∧ w2.cell? ⟨y, 4, none⟩ = some v7 := by
  obtain ⟨h0, h1, h2, h3, h4, h5, h6, h7⟩ := h
  have f1 : ∀ i, w2.cell? ⟨x, i, none⟩ = w.cell? ⟨x, i, none⟩ := fun i => k.cell (p := ⟨x, i, none⟩) hx (by simp)
  have f2 : ∀ i, w2.cell? ⟨y, i, none⟩ = w.cell? ⟨y, i, none⟩ := fun i => k.cell (p := ⟨y, i, none⟩) hy (by simp)
  exact ⟨(f1 _).trans h0, (f1 _).trans h1, (f1 _).trans h2, (f2 _).trans h3, (f2 _).trans h4, (f2 _).trans h5, (f2 _).trans h6, (f2 _).trans h7⟩

set_option maxRecDepth 100000 in
set_option maxHeartbeats 8000000 in
theorem law_any (a0 ao : Option Addr) (m c0 an ac : Nat) (nowNs ex : Int) (rb : Bool) (ad : Nat → ByteArray) (gone rep : Nat → Bool) (la : Nat → Int) (wt xs : Nat → Nat) (w : World) (hbs : BsAt w a0 m ad gone rep la wt) (han : AnsAt w.heap.size w ao an xs) :
    Calls Yba.prog 5 #[.slice a0 m c0, .int .i64 nowNs, .int .i64 ex, .slice ao an ac, .bool rb] w fun e w' => e = .returned (.bool true) ∧ Kept [] w w' := by
  by_cases hm : (1024 : Int) < (m : Int)
  · go_enter Yba.func5, Yba.ntmps5
    go_wp2_with fail
    go_ret
    exact ⟨rfl, Kept.refl _ _⟩
  by_cases hn : (1024 : Int) < (an : Int)
  · go_enter Yba.func5, Yba.ntmps5
    go_wp2_with fail
    go_ret
    exact ⟨rfl, Kept.refl _ _⟩
  have hm' : m ≤ 1024 := by omega
  have hn' : an ≤ 1024 := by omega
  have HBS := hide' hbs
  have HAN := hide' han
  clear hbs han
  go_enter Yba.func5, Yba.ntmps5
  go_upto_region 5 with fail
  obtain ⟨now, hnow⟩ : ∃ now, nowNs.tmod 1099511627776 = now := ⟨_, rfl⟩
  have hnb : -1099511627776 < now ∧ now < 1099511627776 := by rw [← hnow]; exact span_in nowNs
  obtain ⟨hnb1, hnb2⟩ := hnb
  rw [hnow]
  clear hnow
  obtain ⟨W1, eW1, hz1, kz1⟩ := one_more w #[.int .u64 0, .int .i64 0, .pointer none] 46
  rw [← eW1]
  obtain ⟨zb, hzb⟩ : ∃ zb, w.heap.size = zb := ⟨_, rfl⟩
  have hzB : w.heap.size ≤ zb := by omega
  rw [hzb] at hz1
  conv in (⟨w.heap.size, 0, none⟩ : Addr) => rw [hzb]
  have z0 := (box_cell hz1 0).trans rfl
  have z1 := (box_cell hz1 1).trans rfl
  have z2 := (box_cell hz1 2).trans rfl
  have HZ1 := hide' hz1
  have KZ1 := hide' kz1
  clear eW1 hz1 kz1 hzb
  go_wp2_with fail
  refine Calls.mono (add0_any now W1 (by omega) (by omega)) ?_
  rintro e w1 ⟨rfl, k1⟩
  have KW1 := hide' (KZ1.out.then k1 (by simp))
  have HZ2 := hide' ((k1.block zb (lt_box HZ1.out) (by simp)).trans HZ1.out)
  clear k1 z0 z1 z2 HZ1 KZ1
  go_upto_region 9 with fail
  obtain ⟨W4, eW4, hW4⟩ := four_of w1 now ex ao an ac
  rw [← eW4]
  obtain ⟨fn, fs, fh, fg, fk⟩ := hW4
  obtain ⟨nb, hnb⟩ : ∃ nb, w1.heap.size = nb := ⟨_, rfl⟩
  have hnB : w.heap.size ≤ nb := by have := KW1.out.size; omega
  rw [hnb] at fn fs fh fg ⊢
  have HZ4 := hide' ((fk.block zb (lt_box HZ2.out) (by simp)).trans HZ2.out)
  have KW4 := hide' (KW1.out.then fk (by simp))
  obtain ⟨w5, hmk, ⟨ps0, r1, r2⟩, k5⟩ := make_ptrs W4 m hm'
  obtain ⟨lb, hlb⟩ : ∃ lb, W4.heap.size = lb := ⟨_, rfl⟩
  have hl5 : lb < w5.heap.size := by have := lt_box r1; omega
  rw [hlb] at hmk r1
  have M0 : Hid (Made w5 w5 lb m 0 (fun _ => 0) ad gone rep la wt) := ⟨⟨ps0, r1, r2, fun t ht => by omega⟩, fun t ht => by omega, fun t ht => by omega, fun s t hs => by omega, Kept.refl _ _⟩
  have FN := hide' ((k5.block _ (lt_box fn) (by simp)).trans fn)
  have FS := hide' ((k5.block _ (lt_box fs) (by simp)).trans fs)
  have FH := hide' ((k5.block _ (lt_box fh) (by simp)).trans fh)
  have FG := hide' ((k5.block _ (lt_box fg) (by simp)).trans fg)
  have FZ := hide' ((k5.block _ (lt_box HZ4.out) (by simp)).trans HZ4.out)
  have K5 := hide' (KW4.out.then k5 (by simp))
  have hlw : w.heap.size ≤ lb := by have := KW4.out.size; omega
  have hlbg : nb + 1 + 1 + 1 < lb := by have := lt_box fg; omega
  have hzlb : zb ∉ [lb] := by
    have := lt_box HZ4.out
    simp
    omega
  clear eW4 fn fs fh fg fk r1 k5 HZ4 KW4 KW1 HZ2 hlb
  go_upto_region 10 with fail
  clear hmk
  go_cut [55, 56, 57] from 28 to 57 (fun s55 s56 s57 wx => s55 = .slice a0 m c0 ∧ s56 = .int .i64 m ∧ s57 = .int .i64 0 ∧ wx = w5)
  case first =>
    go_wp2_with fail
    go_meet
    case rel => exact ⟨rfl, rfl, rfl, rfl⟩
  case rest =>
  obtain ⟨rfl, rfl, rfl, ec⟩ := hcut
  replace ec := ec.symm
  subst ec
  go_wp2_with fail
  go_loopw [57] (fun iv wx => ∃ (i : Nat) (P : Nat → Nat), i ≤ m ∧ iv = .int .i64 i ∧ Hid (Made w5 wx lb m i P ad gone rep la wt)) (fun iv _ => m - (intOf iv).toNat)
  case atStart => exact ⟨0, _, Nat.zero_le _, rfl, M0⟩
  case round =>
    clear M0
    obtain ⟨i, P, hi, rfl, MX⟩ := hrel
    by_cases hlt : i < m
    · have hltz : (i : Int) < (m : Int) := by omega
      obtain ⟨b, off, rfl, hb1, hb2⟩ := HBS.out (by omega)
      obtain ⟨q0, q1, q2, q3, q4⟩ := hb2 i hlt
      have hkk : Kept [] w wr := ⟨(MX.out.2.2.2.2.os).trans K5.out.os, (MX.out.2.2.2.2.tape).trans K5.out.tape, (MX.out.2.2.2.2.output).trans K5.out.output, Nat.le_trans K5.out.size MX.out.2.2.2.2.size, fun k hk _ => (MX.out.2.2.2.2.block k (Nat.lt_of_lt_of_le hk K5.out.size) (by simp; omega)).trans (K5.out.block k hk (by simp))⟩
      rw [← hkk.cell hb1 (by simp)] at q0 q1 q2 q3 q4
      have lb2 : b < wr.heap.size := Nat.lt_of_lt_of_le hb1 hkk.size
      clear hb2 hkk
      go_upto_region 13 with fail
      obtain ⟨Wb, eWb, hbk, kbk⟩ := one_more wr #[.string (ad i), .bool (gone i), .bool (rep i), .int .i64 (la i), .float .f64 (wt i)] 75
      rw [← eWb]
      obtain ⟨bb, hbb⟩ : ∃ bb, wr.heap.size = bb := ⟨_, rfl⟩
      rw [hbb] at hbk ⊢
      have fz := (MX.out.2.2.2.2.block zb (lt_box FZ.out) hzlb).trans FZ.out
      have fzb := (kbk.block zb (lt_box fz) (by simp)).trans fz
      have hmb := MX.out.then kbk
      have HMB := hide' hmb
      obtain ⟨⟨ps, r1, r2, r3⟩, hrest⟩ := hmb
      clear hrest
      obtain ⟨uc, lc⟩ : ∃ u, Wb.cell? ⟨lb, i, none⟩ = some u := ⟨ps[i]'(by omega), by rw [box_cell r1]; simp⟩
      have lf : Wb.frozen? ⟨lb, i, none⟩ = false := free_box r1
      have ll := lt_box r1
      have hzl : ¬ zb = lb := by
        rintro rfl
        have := fzb.symm.trans r1
        simp at this
      have hbl : ¬ bb = lb := by
        rintro rfl
        have := hbk.symm.trans r1
        simp at this
      have hzl' : ¬ lb = zb := fun e => hzl e.symm
      have hbl' : ¬ lb = bb := fun e => hbl e.symm
      have z0 : Wb.cell? ⟨zb, 0, none⟩ = some (.int .u64 0) := (box_cell fzb 0).trans rfl
      have z1 : Wb.cell? ⟨zb, 1, none⟩ = some (.int .i64 0) := (box_cell fzb 1).trans rfl
      have z2 : Wb.cell? ⟨zb, 2, none⟩ = some (.pointer none) := (box_cell fzb 2).trans rfl
      have b0 : Wb.cell? ⟨bb, 0, none⟩ = some (.string (ad i)) := (box_cell hbk 0).trans rfl
      have b1 : Wb.cell? ⟨bb, 1, none⟩ = some (.bool (gone i)) := (box_cell hbk 1).trans rfl
      have b2 : Wb.cell? ⟨bb, 2, none⟩ = some (.bool (rep i)) := (box_cell hbk 2).trans rfl
      have b3 : Wb.cell? ⟨bb, 3, none⟩ = some (.int .i64 (la i)) := (box_cell hbk 3).trans rfl
      have b4 : Wb.cell? ⟨bb, 4, none⟩ = some (.float .f64 (wt i)) := (box_cell hbk 4).trans rfl
      have lzz := lt_box fzb
      have lbb := lt_box hbk
      obtain ⟨lst, hlst⟩ : ∃ lst, (la i).tmod 1099511627776 = lst := ⟨_, rfl⟩
      have hsp := span_in (la i)
      rw [hlst] at hsp
      obtain ⟨hsp1, hsp2⟩ := hsp
      have AD := hide' (fun W => add0_any lst W (by omega) (by omega))
      have ZB := hide' (And.intro z0 (And.intro z1 (And.intro z2 (And.intro b0 (And.intro b1 (And.intro b2 (And.intro b3 b4)))))))
      have LC := hide' lc
      have LF := hide' lf
      have L3 := hide' (And.intro ll (And.intro lzz lbb))
      have NE := hide' (And.intro hzl' hbl')
      clear eWb hbk kbk r1 r2 r3 fz fzb hbb q0 q1 q2 q3 q4 z0 z1 z2 b0 b1 b2 b3 b4 lc lf ll lzz lbb hzl hbl hzl' hbl' hb1 lb2 hltz hsp1 hsp2 hm hn
      go_region_held3 (fun w' => w'.cell? ⟨zb, 0, none⟩ = some (.int .u64 0) ∧ w'.cell? ⟨zb, 1, none⟩ = some (.int .i64 0) ∧ w'.cell? ⟨zb, 2, none⟩ = some (.pointer none) ∧ w'.cell? ⟨bb, 0, none⟩ = some (.string (ad i)) ∧ w'.cell? ⟨bb, 1, none⟩ = some (.bool (gone i)) ∧ w'.cell? ⟨bb, 2, none⟩ = some (.bool (rep i)) ∧ w'.cell? ⟨bb, 3, none⟩ = some (.int .i64 (la i)) ∧ w'.cell? ⟨bb, 4, none⟩ = some (.float .f64 (wt i)))
        (first | exact ZB.out | exact ZB2.out | exact s8_alloc ZB2.out | exact s8_alloc (s8_set ZB2.out NE.out.1 NE.out.1 NE.out.1 NE.out.2 NE.out.2 NE.out.2 NE.out.2 NE.out.2) | exact s8_set (s8_alloc ZB2.out) NE.out.1 NE.out.1 NE.out.1 NE.out.2 NE.out.2 NE.out.2 NE.out.2 NE.out.2)
        (first | (go_at_call 8; refine (AD.out _).mono ?_; rintro e w2 ⟨rfl, k2⟩; have K2 := hide' k2; have ZB2 := hide' (s8_kept ZB.out k2 L3.out.2.1 L3.out.2.2); have lc' := (k2.cell (p := ⟨lb, i, none⟩) L3.out.1 (by simp)).trans LC.out; have lf' : w2.frozen? ⟨lb, i, none⟩ = false := (World.frozen?_of_block (k2.block lb L3.out.1 (by simp))).trans LF.out; have ll' : lb < w2.heap.size := Nat.lt_of_lt_of_le L3.out.1 k2.size; clear k2))
      have MN := hide' (HMB.out.push hlt hl5 (((Kept.refl [] Wb).drew).then K2.out (by simp)))
      rw [hlst] at MN
      clear lc' lf' ll' ZB2 K2 HMB
      go_wp2_with fail
      go_roundw
      case rel => exact ⟨i + 1, _, by omega, by go_num, MN⟩
      case measure => simp [intOf]; omega
    · obtain rfl : m = i := by omega
      clear hlt hi
      have hst := law_state hm' hn' hnb1 hnb2 MX.out K5.out HAN.out hnB hlw hlbg FS.out FH.out FG.out
      obtain ⟨c, hc⟩ : ∃ c : Cfg, c = { B := w.heap.size, hb := nb + 1 + 1, gb := nb + 1 + 1 + 1, sb := nb + 1, lb := lb, m := m, an := an, ac := ac, ao := ao, xs := xs, P := P, rep := rep, last := fun t => (la t).tmod 1099511627776, wt := wt, ad := ad, gone := gone, now := now, ex := ex } := ⟨_, rfl⟩
      rw [← hc] at hst
      have HAT := at_any c rb wr hst.1
      have fn := (MX.out.2.2.2.2.block nb (lt_box FN.out) (by simp; omega)).trans FN.out
      have n0 : wr.cell? ⟨nb, 0, none⟩ = some (.int .u64 (now % 1000000000)) := (box_cell fn 0).trans rfl
      have n1 : wr.cell? ⟨nb, 1, none⟩ = some (.int .i64 (now / 1000000000)) := (box_cell fn 1).trans rfl
      have n2 : wr.cell? ⟨nb, 2, none⟩ = some (.pointer none) := (box_cell fn 2).trans rfl
      have eg : c.gb = nb + 1 + 1 + 1 := by rw [hc]
      have el : c.lb = lb := by rw [hc]
      have em : c.m = m := by rw [hc]
      have es : c.sb = nb + 1 := by rw [hc]
      have en : c.now = now := by rw [hc]
      rw [eg, el, es] at HAT
      have HAT2 := hide' (show Calls Yba.prog 9 #[.pointer (some ⟨nb + 1 + 1 + 1, 0, none⟩), .agg #[.int .u64 (now % 1000000000), .int .i64 (now / 1000000000), .pointer none], .slice (some ⟨lb, 0, none⟩) m m, .pointer (some ⟨nb + 1, 0, none⟩), .bool rb] wr _ by
        rw [← em, ← en]
        exact HAT)
      have FN2 := hide' fn
      have ST0 := hide' hst
      have HC := hide' hc
      clear hst HAT fn eg el em es en hc
      go_wp2_with fail
      refine Calls.mono HAT2.out ?_
      rintro e w6 ⟨⟨ob, cur, rfl, ho1, ho2, ho3⟩, st6, fr6⟩
      have KWR := hide' ST0.out.2
      have HLA := hide' (show ∀ t, c.last t = (la t).tmod 1099511627776 by rw [HC.out]; intro t; rfl)
      have em : m = c.m := by rw [HC.out]
      have ean : an = c.an := by rw [HC.out]
      have exs : xs = c.xs := by rw [HC.out]
      have erep : rep = c.rep := by rw [HC.out]
      have ewt : wt = c.wt := by rw [HC.out]
      have ead : ad = c.ad := by rw [HC.out]
      have egone : gone = c.gone := by rw [HC.out]
      have eex : ex = c.ex := by rw [HC.out]
      have enow : now = c.now := by rw [HC.out]
      have elb : lb = c.lb := by rw [HC.out]
      have hB : c.B = w.heap.size := by rw [HC.out]
      have hhb : c.hb = nb + 1 + 1 := by rw [HC.out]
      have hgb : c.gb = nb + 1 + 1 + 1 := by rw [HC.out]
      have HBB := hide' hB
      have HHB := hide' hhb
      have FN6 := hide' (fr6.other ST0.out.1 FN2.out (by decide))
      have ST6 := hide' st6
      have kw6 : Kept [] w w6 := ⟨fr6.os.trans KWR.out.os, fr6.tape.trans KWR.out.tape, fr6.output.trans KWR.out.output, Nat.le_trans KWR.out.size fr6.size, fun k hk _ =>
        (fr6.block k (Nat.lt_of_lt_of_le hk KWR.out.size) (by omega) (by omega) (fun i hi e => by have := st6.b3 i hi; omega) (.inl (by omega))).trans (KWR.out.block k hk (by simp))⟩
      have KW6 := hide' kw6
      have GO := hide' (show ∃ cur : List Value, w6.heap[ob]? = some (.cells cur.toArray 50 (0, 0)) ∧ cur.length = c.m ∧ ∀ i, i < c.m → cur[i]? = some (.float .f64 (c.wt' i)) from ⟨cur, ho1, ho2, ho3⟩)
      clear HC ST0 st6 fr6 kw6 FN2 ho1 ho2 ho3 HAT2 n0 n1 n2 MX FN FS FH FG FZ K5 KWR hB hhb hgb
      subst em
      subst ean
      subst exs
      subst erep
      subst ewt
      subst ead
      subst egone
      subst eex
      subst enow
      subst elb
      go_upto_region 21 with fail
      have hm6 : c.m ≤ 1024 := ST6.out.ms.1
      have han6 : c.an ≤ 1024 := ST6.out.ms.2
      have OW0 : Hid (w6.ownsRow w6.heap.size 81 2 (.slice none 0 0) (c.logs 0).length ((c.logs 0).flatMap encEn)) := ⟨rfl, .inl ⟨rfl, rfl⟩⟩
      have K60 := hide' (Kept.refl [] w6)
      go_loopw [21, 22, 94] (fun wv kv iv wx => ∃ i : Nat, i ≤ c.m ∧ iv = .int .i64 i ∧ kv = .int .i64 (c.cnt i : Nat) ∧ Hid (wx.ownsRow w6.heap.size 81 2 wv (c.logs i).length ((c.logs i).flatMap encEn)) ∧ Hid (Kept [] w6 wx)) (fun _ _ iv _ => c.m - (intOf iv).toNat)
      case atStart => exact ⟨0, Nat.zero_le _, rfl, rfl, OW0, K60⟩
      case round =>
        clear OW0 K60
        obtain ⟨i, hi, rfl, rfl, OX, KX⟩ := hrel
        by_cases hlt : i < c.m
        · have hltz : (i : Int) < (c.m : Int) := by omega
          obtain ⟨b, off, rfl, hb1, hb2⟩ := HBS.out (by omega)
          obtain ⟨q0, q1, q2, q3, q4⟩ := hb2 i hlt
          have hkk := KW6.out.then KX.out (by simp)
          rw [← hkk.cell hb1 (by simp)] at q0 q1 q2 q3 q4
          have lb2 : b < wr.heap.size := Nat.lt_of_lt_of_le hb1 hkk.size
          clear hb2 hkk
          go_upto_region 23 with fail
          obtain ⟨Wb, eWb, hbk, kbk⟩ := one_more wr #[.string (c.ad i), .bool (c.gone i), .bool (c.rep i), .int .i64 (la i), .float .f64 (c.wt i)] 75
          rw [← eWb]
          obtain ⟨bb, hbb⟩ : ∃ bb, wr.heap.size = bb := ⟨_, rfl⟩
          rw [hbb] at hbk ⊢
          have b0 : Wb.cell? ⟨bb, 0, none⟩ = some (.string (c.ad i)) := (box_cell hbk 0).trans rfl
          have b1 : Wb.cell? ⟨bb, 1, none⟩ = some (.bool (c.gone i)) := (box_cell hbk 1).trans rfl
          have b2 : Wb.cell? ⟨bb, 2, none⟩ = some (.bool (c.rep i)) := (box_cell hbk 2).trans rfl
          have b3 : Wb.cell? ⟨bb, 3, none⟩ = some (.int .i64 (la i)) := (box_cell hbk 3).trans rfl
          have b4 : Wb.cell? ⟨bb, 4, none⟩ = some (.float .f64 (c.wt i)) := (box_cell hbk 4).trans rfl
          have KB := hide' (KX.out.then kbk (by simp))
          have OB := hide' (own_kept OX.out kbk)
          have HBK := hide' hbk
          have hll := lt_box hbk
          obtain ⟨lst, hlst⟩ : ∃ lst, (la i).tmod 1099511627776 = lst := ⟨_, rfl⟩
          have hsp := span_in (la i)
          rw [hlst] at hsp
          obtain ⟨hsp1, hsp2⟩ := hsp
          have HREN := hide' (show c.ren i = (!c.gone i && (c.rep i && decide (c.ex < c.now - lst))) by unfold Cfg.ren; rw [HLA.out i, hlst])
          clear eWb hbk kbk hbb q0 q1 q2 q3 q4 OX KX
          go_upto_region 25 with fail
          go_cut [118] from 103 to 118 (fun s118 wx => s118 = .bool (c.ren i) ∧ wx = Wb)
          case first =>
            rcases Bool.eq_false_or_eq_true (c.gone i) with hg | hg
            · rw [hg] at b1
              have e0 := hide' (show c.ren i = false by rw [HREN.out, hg]; rfl)
              clear hg
              go_wp2_with fail
              go_meet
              case rel => exact ⟨by rw [e0.out], rfl⟩
            · rw [hg] at b1
              rcases Bool.eq_false_or_eq_true (c.rep i) with hp | hp
              · rw [hp] at b2
                have e0 := hide' (show c.ren i = decide (c.ex < c.now - lst) by rw [HREN.out, hg, hp]; rfl)
                clear hg hp
                go_wp2_with fail
                go_meet
                case rel => exact ⟨by rw [e0.out], rfl⟩
              · rw [hp] at b2
                have e0 := hide' (show c.ren i = false by rw [HREN.out, hg, hp]; rfl)
                clear hg hp
                go_wp2_with fail
                go_meet
                case rel => exact ⟨by rw [e0.out], rfl⟩
          case rest =>
          obtain ⟨rfl, ec⟩ := hcut
          replace ec := ec.symm
          subst ec
          go_upto_if 118 with fail
          go_cut [21, 22, 25, 26] from 118 to 151 (fun s21 s22 s25 s26 wx => s22 = .int .i64 (c.cnt (i + 1) : Nat) ∧ s25 = .float .f64 (c.wt' i) ∧ s26 = .bool (c.rep' i) ∧ Hid (wx.ownsRow w6.heap.size 81 2 s21 (c.logs (i + 1)).length ((c.logs (i + 1)).flatMap encEn)) ∧ Hid (Kept [] w6 wx) ∧ Hid (wx.heap[bb]? = some (.cells #[.string (c.ad i), .bool (c.gone i), .bool (c.rep i), .int .i64 (la i), .float .f64 (c.wt i)] 75 (0, 0))))
          case first =>
            cases hr : c.ren i
            · have e1 := hide' (show c.cnt (i + 1) = c.cnt i by simp [Cfg.cnt, hr])
              have e2 := hide' (show c.logs (i + 1) = c.logs i by simp [Cfg.logs, hr])
              have e3 := hide' (show c.wt' i = c.wt i by simp [Cfg.wt', hr])
              have e4 := hide' (show c.rep' i = c.rep i by simp [Cfg.rep', hr])
              go_wp2_with fail
              go_meet
              case rel => exact ⟨by rw [e1.out], by rw [e3.out], by rw [e4.out], by rw [e2.out]; exact OB, KB, HBK⟩
            · have e1 := hide' (show c.cnt (i + 1) = c.cnt i + 1 by simp [Cfg.cnt, hr])
              have e2 := hide' (show c.logs (i + 1) = c.logs i ++ [(82, c.ad i), (65, c.ad i)] by simp [Cfg.logs, hr])
              have e3 := hide' (show c.wt' i = addW c.xs c.an (c.cnt i) by simp [Cfg.wt', hr])
              have e4 := hide' (show c.rep' i = false by simp [Cfg.rep', hr])
              obtain ⟨ii, hii, hz0, hz1, hz2⟩ := info_parts info81
              have hll6 := c.logs_len i
              have hcl := c.cnt_le i
              have hB6 : w6.heap.size ≤ Wb.heap.size := KB.out.size
              clear hr hsp1 hsp2 hlst HREN
              go_upto_region 27 with (at_builtin; refine wpList_append_lies _ rfl _ _ 59 rfl w6.heap.size 81 ii _ 2 24 Yba.underlying59 hii hz0 hz1 hz2 rfl (by omega) u21 (c.logs i).length ((c.logs i).flatMap encEn) rfl (OB.out.alloc _) ⟨Wb.heap.size, 0, none⟩ 2 2 (encEn (82, c.ad i) ++ encEn (65, c.ad i)) rfl rfl ?n1 ?n2 (by omega) ?n3 ?n4 ?n5 _ rfl ?_)
              case n1 => exact World.news_of_block (heap_alloc_new Wb (.cells (encEn (82, c.ad i) ++ encEn (65, c.ad i)).toArray 81))
              case n2 => intro u hu; simp [encEn] at hu; rcases hu with rfl | rfl | rfl | rfl <;> rfl
              case n3 => simp [maxLen]; omega
              case n4 => omega
              case n5 => simp; omega
              intro g cap w2 hown hgrow _ hgl
              have K1 := hide' (kept_grown OB.out hgrow KB.out)
              have BX1 := hide' (box_grown OB.out hgrow HBK.out (by decide))
              have O1 := hide' (show w2.ownsRow w6.heap.size 81 2 (.slice (some ⟨g, 0, none⟩) ((c.logs i).length + 2) cap) (c.logs (i + 1)).length ((c.logs (i + 1)).flatMap encEn) by
                rw [e2.out]
                simpa [List.flatMap_append] using hown)
              clear hown hgrow hgl OB KB HBK e2 b0 b1 b2 b3 b4 hll
              go_upto_region 28 with fail
              by_cases hka : c.cnt i < c.an
              · have hkz : (c.cnt i : Int) < (c.an : Int) := by omega
                obtain ⟨ab, aoff, rfl, ha1, ha2, ha3⟩ := HAN.out (by omega)
                have x0 := ha3 (c.cnt i) hka
                rw [← (KW6.out.then K1.out (by simp)).cell ha2 (by simp)] at x0
                have eA := hide' (show addW c.xs c.an (c.cnt i) = if geZ (c.xs (c.cnt i)) && leM (c.xs (c.cnt i)) then c.xs (c.cnt i) else 0 by
                  unfold addW fin
                  rw [if_pos hka])
                have f1 := fun W => ge_run (c.xs (c.cnt i)) W
                have f2 := fun W => le_run (c.xs (c.cnt i)) W
                clear ha3 ha1 ha2
                rcases Bool.eq_false_or_eq_true (geZ (c.xs (c.cnt i))) with hg | hg
                · rcases Bool.eq_false_or_eq_true (leM (c.xs (c.cnt i))) with hl | hl
                  · have eB := hide' (show addW c.xs c.an (c.cnt i) = c.xs (c.cnt i) by rw [eA.out, hg, hl]; rfl)
                    rw [hg] at f1
                    rw [hl] at f2
                    clear hg hl
                    go_wp2_with fail
                    go_meet
                    case rel => exact ⟨by rw [e1.out]; go_num, by rw [e3.out, eB.out], by rw [e4.out], O1, K1, BX1⟩
                  · have eB := hide' (show addW c.xs c.an (c.cnt i) = 0 by rw [eA.out, hg, hl]; rfl)
                    rw [hg] at f1
                    rw [hl] at f2
                    clear hg hl
                    go_wp2_with fail
                    go_meet
                    case rel => exact ⟨by rw [e1.out]; go_num, by rw [e3.out, eB.out], by rw [e4.out], O1, K1, BX1⟩
                · have eB := hide' (show addW c.xs c.an (c.cnt i) = 0 by rw [eA.out, hg]; rfl)
                  rw [hg] at f1
                  clear hg
                  go_wp2_with fail
                  go_meet
                  case rel => exact ⟨by rw [e1.out]; go_num, by rw [e3.out, eB.out], by rw [e4.out], O1, K1, BX1⟩
              · have hkz : ¬ (c.cnt i : Int) < (c.an : Int) := by omega
                have eB := hide' (show addW c.xs c.an (c.cnt i) = 0 by
                  unfold addW
                  rw [if_neg hka]
                  simp)
                go_wp2_with fail
                go_meet
                case rel => exact ⟨by rw [e1.out]; go_num, by rw [e3.out, eB.out], by rw [e4.out], O1, K1, BX1⟩
          case rest =>
          obtain ⟨rfl, rfl, rfl, OY, KY, HBK2⟩ := hcut
          clear OB KB HBK
          have sy := ST6.out.then KY.out
          obtain ⟨cur2, go1, go2, go3⟩ := GO.out
          have go0 : wc.cell? ⟨ob, i, none⟩ = some (.float .f64 (c.wt' i)) := by
            rw [box_cell ((KY.out.block ob (lt_box go1) (by simp)).trans go1)]
            simpa using go3 i hlt
          have p0 : wc.cell? ⟨c.lb, i, none⟩ = some (.pointer (some ⟨c.P i, 0, none⟩)) := by
            obtain ⟨ps, r1, r2, r3⟩ := sy.row
            rw [box_cell r1]
            simpa using r3 i hlt
          have hlw2 : c.lw c.m i = lwCells (c.rep' i) (c.last i) (c.wt' i) (c.ad i) (c.gone i) := by simp [Cfg.lw, hlt]
          have hl := sy.lws i hlt
          rw [hlw2] at hl
          have l2 : wc.cell? ⟨c.P i, 2, none⟩ = some (.bool (c.rep' i)) := (box_cell hl 2).trans rfl
          have l10 : wc.cell? ⟨c.P i, 10, none⟩ = some (.string (c.ad i)) := (box_cell hl 10).trans rfl
          have l11 : wc.cell? ⟨c.P i, 11, none⟩ = some (.bool (c.gone i)) := (box_cell hl 11).trans rfl
          have d0 : wc.cell? ⟨bb, 0, none⟩ = some (.string (c.ad i)) := (box_cell HBK2.out 0).trans rfl
          have d1 : wc.cell? ⟨bb, 1, none⟩ = some (.bool (c.gone i)) := (box_cell HBK2.out 1).trans rfl
          clear sy go1 go2 go3 hl hlw2 b0 b1 b2 b3 b4 hll hsp1 hsp2 hlst HREN HBK2
          go_upto_region 32 with fail
          have hbits := fun W => bits_run (c.wt' i) W
          go_upto_region 34 with fail
          clear hbits go0
          generalize c.rep' i = rv at l2 ⊢
          generalize c.gone i = gv at l11 d1 ⊢
          cases rv <;> cases gv
          all_goals
            go_quiet (fail)
            clear p0 l2 l10 l11 d0 d1
            go_wp2_with fail
            go_roundw
            case rel => exact ⟨i + 1, by omega, by go_num, rfl, own_kept OY.out (Kept.drewN [] _ _), KY.out.drewN' _⟩
            case measure => simp [intOf]; omega
        · obtain rfl : i = c.m := by omega
          clear hlt hi
          obtain ⟨LF, hLF⟩ : ∃ LF, (c.logs c.m ++ if rb then [(66, ⟨#[]⟩)] else []) = LF := ⟨_, rfl⟩
          rw [hLF] at ST6
          have HLF := hide' hLF
          have hll6 := c.logs_len c.m
          have hLl : LF.length ≤ 4000 := by
            rw [← hLF]
            split <;> simp <;> omega
          clear hLF
          go_upto_if 194 with fail
          go_cut [21] from 194 to 205 (fun s21 wx => Hid (wx.ownsRow w6.heap.size 81 2 s21 LF.length (LF.flatMap encEn)) ∧ Hid (Kept [] w6 wx))
          case first =>
            cases rb with
            | false =>
              have e1 := hide' (show c.logs c.m = LF by rw [← HLF.out]; simp)
              go_wp2_with fail
              go_meet
              case rel => exact ⟨by rw [← e1.out]; exact OX, KX⟩
            | true =>
              have e1 := hide' (show c.logs c.m ++ [(66, ⟨#[]⟩)] = LF by rw [← HLF.out]; simp)
              obtain ⟨ii, hii, hz0, hz1, hz2⟩ := info_parts info81
              have hB6 : w6.heap.size ≤ wr.heap.size := KX.out.size
              go_upto_region 39 with (at_builtin; refine wpList_append_lies _ rfl _ _ 59 rfl w6.heap.size 81 ii _ 2 24 Yba.underlying59 hii hz0 hz1 hz2 rfl (by omega) u21 (c.logs c.m).length ((c.logs c.m).flatMap encEn) rfl (OX.out.alloc _) ⟨wr.heap.size, 0, none⟩ 1 1 (encEn (66, ⟨#[]⟩)) rfl rfl ?n1 ?n2 (by omega) ?n3 ?n4 ?n5 _ rfl ?_)
              case n1 => exact fun j u h => h
              case n2 => intro u hu; simp [encEn] at hu; rcases hu with rfl | rfl <;> rfl
              case n3 => simp [maxLen]; omega
              case n4 => omega
              case n5 => omega
              intro g cap w2 hown hgrow _ hgl
              have K1 := hide' (kept_grown OX.out hgrow KX.out)
              have O1 := hide' (show w2.ownsRow w6.heap.size 81 2 (.slice (some ⟨g, 0, none⟩) ((c.logs c.m).length + 1) cap) LF.length (LF.flatMap encEn) by
                rw [← e1.out]
                simpa [List.flatMap_append] using hown)
              obtain ⟨lv, hk1, hk2⟩ := (ST6.out.then K1.out).hk
              rw [HHB.out] at hk1
              have h3 : w2.cell? ⟨nb + 1 + 1, 3, none⟩ = some (.int .u64 (c.now % 1000000000)) := (box_cell hk1 3).trans rfl
              have h4 : w2.cell? ⟨nb + 1 + 1, 4, none⟩ = some (.int .i64 (c.now / 1000000000)) := (box_cell hk1 4).trans rfl
              have h5 : w2.cell? ⟨nb + 1 + 1, 5, none⟩ = some (.pointer none) := (box_cell hk1 5).trans rfl
              have fn := (K1.out.block nb (lt_box FN6.out) (by simp)).trans FN6.out
              have n0 : w2.cell? ⟨nb, 0, none⟩ = some (.int .u64 (c.now % 1000000000)) := (box_cell fn 0).trans rfl
              have n1 : w2.cell? ⟨nb, 1, none⟩ = some (.int .i64 (c.now / 1000000000)) := (box_cell fn 1).trans rfl
              have n2 : w2.cell? ⟨nb, 2, none⟩ = some (.pointer none) := (box_cell fn 2).trans rfl
              have L1 := lt_box hk1
              have L2 := lt_box fn
              have HEQ := hide' (show ∀ W, Calls Yba.prog 11 #[.agg #[.int .u64 (c.now % 1000000000), .int .i64 (c.now / 1000000000), .pointer none], .agg #[.int .u64 (c.now % 1000000000), .int .i64 (c.now / 1000000000), .pointer none]] W fun e w' => e = .returned (.bool true) ∧ Kept [] W w' from fun W => by
                have h := equal_any c.now c.now W
                rw [decide_eq_true rfl] at h
                exact h)
              clear hown hgrow hgl OX KX e1 hk1 hk2 fn
              go_upto_region 39 with fail
              go_region_held3 (fun w' => w'.cell? ⟨nb + 1 + 1, 3, none⟩ = some (.int .u64 (c.now % 1000000000)) ∧ w'.cell? ⟨nb + 1 + 1, 4, none⟩ = some (.int .i64 (c.now / 1000000000)) ∧ w'.cell? ⟨nb + 1 + 1, 5, none⟩ = some (.pointer none) ∧ w'.cell? ⟨nb, 0, none⟩ = some (.int .u64 (c.now % 1000000000)) ∧ w'.cell? ⟨nb, 1, none⟩ = some (.int .i64 (c.now / 1000000000)) ∧ w'.cell? ⟨nb, 2, none⟩ = some (.pointer none)) (go_keep)
                (first | (go_at_call 11; refine (HEQ.out _).mono ?_; rintro e w4 ⟨rfl, k4⟩; have K4 := hide' k4; have h3' := (k4.cell (p := ⟨nb + 1 + 1, 3, none⟩) L1 (by simp)).trans h3; have h4' := (k4.cell (p := ⟨nb + 1 + 1, 4, none⟩) L1 (by simp)).trans h4; have h5' := (k4.cell (p := ⟨nb + 1 + 1, 5, none⟩) L1 (by simp)).trans h5; have n0' := (k4.cell (p := ⟨nb, 0, none⟩) L2 (by simp)).trans n0; have n1' := (k4.cell (p := ⟨nb, 1, none⟩) L2 (by simp)).trans n1; have n2' := (k4.cell (p := ⟨nb, 2, none⟩) L2 (by simp)).trans n2; clear k4))
              have K5 := hide' ((Kept.refl [] w2).drew.then K4.out (by simp))
              have O5 := hide' (own_kept O1.out K5.out)
              have K6 := hide' (K1.out.then K5.out (by simp))
              clear h3 h4 h5 n0 n1 n2 h3' h4' h5' n0' n1' n2' K4 K5 O1 K1
              go_wp2_with fail
              go_meet
              case rel => exact ⟨O5, K6⟩
          case rest =>
          obtain ⟨OY, KY⟩ := hcut
          clear OX KX
          obtain ⟨lv, hk1, hk2⟩ := (ST6.out.then KY.out).hk
          rw [HHB.out] at hk1
          obtain ⟨a1, cap1, rfl, rd1⟩ := own_read OY.out
          obtain ⟨a2, cap2, rfl, rd2⟩ := own_read hk2
          have h2 : wc.cell? ⟨nb + 1 + 1, 2, none⟩ = some (.slice a2 LF.length cap2) := (box_cell hk1 2).trans rfl
          have RD1 := hide' rd1
          have RD2 := hide' rd2
          have K7 := hide' (KW6.out.then KY.out (by simp))
          have L1 := lt_box hk1
          clear rd1 rd2 hk1 hk2 OY KY
          go_upto_region 44 with fail
          have hz := hide' (Kept.refl [] wc)
          go_loopw [216] (fun jv wx => ∃ j : Nat, j ≤ LF.length ∧ jv = .int .i64 j ∧ Hid (∃ q, wx = wc.drewN q)) (fun jv _ => LF.length - (intOf jv).toNat)
          case atStart => exact ⟨0, Nat.zero_le _, rfl, 0, rfl⟩
          case round =>
            clear hz
            obtain ⟨j, hj, rfl, DX⟩ := hrel
            obtain ⟨q, rfl⟩ := DX.out
            clear DX
            by_cases hjl : j < LF.length
            · have hjz : (j : Int) < (LF.length : Int) := by omega
              obtain ⟨g1, rfl, x0, x1⟩ := RD1.out j hjl
              obtain ⟨g2, rfl, y0, y1⟩ := RD2.out j hjl
              have hq := fun W => neq81 (LF[j].1) (LF[j].2) W
              go_upto_region 46 with fail
              go_quiet (fail)
              go_wp2_with fail
              go_roundw
              case rel => exact ⟨j + 1, by omega, by go_num, by first | exact ⟨_, rfl⟩ | exact ⟨_, World.drewN_drewN⟩ | exact ⟨_, World.drewN_drewN ..⟩⟩
              case measure => simp [intOf]; omega
            · obtain rfl : j = LF.length := by omega
              go_wp2_with fail
              go_ret
              exact ⟨rfl, K7.out.drewN' _⟩
end Go.Proofs.Ybulkdwc
