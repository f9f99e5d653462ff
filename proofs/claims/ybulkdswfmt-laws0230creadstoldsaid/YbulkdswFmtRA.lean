/-
  Seat b0230aF: what io.ReadAll's rounds carry, and how each step keeps it. No Go here.
-/
import Derived.Test.YbulkdswFmtWords
import Derived.Lib.AppendZeros
namespace Go.Proofs.YbulkdswFmt
open Go.RowKit

/-- a buffer: its block, length, capacity, and all its cells -/
structure Chunk where
  g : Nat
  l : Nat
  c : Nat
  cur : List Value
def Chunk.hdr (x : Chunk) : Value := .slice (some ⟨x.g, 0, none⟩) x.l x.c
def Chunk.dat (x : Chunk) : List Value := x.cur.take x.l
structure Chunk.ok (B : Nat) (w : World) (x : Chunk) : Prop where
  low : B ≤ x.g
  row : w.heap[x.g]? = some (.cells x.cur.toArray 5 (0, 0))
  len : x.l ≤ x.c
  size : x.cur.length = x.c
  one : ∀ u ∈ x.dat, u.oneCell' = true
theorem Chunk.ok.kept {B : Nat} {w w' : World} {x : Chunk} (h : x.ok B w) {S : List Nat} (hk : Kept S w w') (hS : x.g ∉ S) : x.ok B w' :=
  ⟨h.low, (hk.block _ (lt_box h.row) hS).trans h.row, h.len, h.size, h.one⟩

structure RA (w0 w : World) (lb rb sb n c k0 N0 : Nat) (zs : List Value) (k : Nat) (b : Chunk) (nx fs : Nat) (chv : Value) (L : List Chunk) : Prop where
  kept : Kept [lb, rb] w0 w
  lim : w.heap[lb]? = some (.cells #[.iface 41 (.pointer (some ⟨rb, 0, none⟩)), .int .i64 ((N0 - (k - k0) : Nat) : Int)] 78 (0, 0))
  rdr : w.heap[rb]? = some (.cells #[.slice (some ⟨sb, 0, none⟩) n c, .int .i64 (k : Int)] 43 (0, 0))
  buf : b.ok w0.heap.size w
  bmax : b.c ≤ maxLen
  bmin : 256 ≤ b.c
  chs : w.ownsRow w0.heap.size 22 1 chv L.length (L.map Chunk.hdr)
  each : ∀ x ∈ L, x.ok w0.heap.size w ∧ x.g ≠ b.g
  data : (L.map Chunk.dat).flatten ++ b.dat = (zs.drop k0).take (k - k0)
  sum : fs + b.l = k - k0
  fsum : (L.map Chunk.dat).flatten.length = fs
  cnt : L.length ≤ fs
  nx0 : 256 ≤ nx
  nx1 : nx ≤ 256 + fs
  nx2 : 2 * nx ≤ 3 * b.c
  k1 : k0 ≤ k
  k2 : k ≤ n
  k3 : k - k0 ≤ N0

theorem own_kept {w w' : World} {B e size m : Nat} {v : Value} {xs : List Value} (h : w.ownsRow B e size v m xs) {S : List Nat} (hk : Kept S w w') (hS : ∀ g, v.ownBlock = some g → g ∉ S) : w'.ownsRow B e size v m xs := by
  refine ⟨h.1, ?_⟩
  rcases h.2 with hn | ⟨g, cap, cur, rfl, h1, h2, rest⟩
  · exact .inl hn
  · exact .inr ⟨g, cap, cur, rfl, h1, (hk.block g (lt_box h2) (hS g rfl)).trans h2, rest⟩
theorem own_ne {w : World} {B n b e e' size : Nat} {v : Value} {xs : List Value} {C : Array Value} (h : w.ownsRow B e size v n xs) (hb : w.heap[b]? = some (.cells C e' (0, 0))) (he : e' ≠ e) : ∀ g, v.ownBlock = some g → g ≠ b := by
  rcases h.2 with ⟨rfl, _⟩ | ⟨g, cap, cur, rfl, _, hg, _⟩
  · intro g hg
    cases hg
  · intro g' eq e2
    cases eq
    subst e2
    rw [hb] at hg
    simp at hg
    exact he hg.2

section
variable {w0 w : World} {lb rb sb n c k0 N0 k nx fs : Nat} {zs : List Value} {b : Chunk} {chv : Value} {L : List Chunk}

theorem RA.ne_lb (h : RA w0 w lb rb sb n c k0 N0 zs k b nx fs chv L) {x : Chunk} (hx : x.ok w0.heap.size w) : x.g ≠ lb := fun e => by
  have := hx.row
  rw [e, h.lim] at this
  simp at this
theorem RA.ne_rb (h : RA w0 w lb rb sb n c k0 N0 zs k b nx fs chv L) {x : Chunk} (hx : x.ok w0.heap.size w) : x.g ≠ rb := fun e => by
  have := hx.row
  rw [e, h.rdr] at this
  simp at this
theorem RA.lb_rb (h : RA w0 w lb rb sb n c k0 N0 zs k b nx fs chv L) : lb ≠ rb := fun e => by
  have := h.lim
  rw [e, h.rdr] at this
  simp at this

/-- nothing old has turned -/
theorem RA.idle (h : RA w0 w lb rb sb n c k0 N0 zs k b nx fs chv L) {w' : World} (hk : Kept [] w w') : RA w0 w' lb rb sb n c k0 N0 zs k b nx fs chv L where
  kept := h.kept.then hk (by simp)
  lim := (hk.block _ (lt_box h.lim) (by simp)).trans h.lim
  rdr := (hk.block _ (lt_box h.rdr) (by simp)).trans h.rdr
  buf := h.buf.kept hk (by simp)
  bmax := h.bmax
  bmin := h.bmin
  chs := own_kept h.chs hk (by simp)
  each := fun x hx => ⟨(h.each x hx).1.kept hk (by simp), (h.each x hx).2⟩
  data := h.data
  sum := h.sum
  fsum := h.fsum
  cnt := h.cnt
  nx0 := h.nx0
  nx1 := h.nx1
  nx2 := h.nx2
  k1 := h.k1
  k2 := h.k2
  k3 := h.k3

theorem dat_splice {cur cs : List Value} {l m : Nat} (hl : l ≤ cur.length) (hm : cs.length = m) : (splice cur l cs).take (l + m) = cur.take l ++ cs := by
  unfold splice
  rw [← List.append_assoc, List.take_append_of_le_length (by simp; omega)]
  exact List.take_of_length_le (by simp; omega)
theorem take_more {zs : List Value} {k0 k m : Nat} (h : k0 ≤ k) : (zs.drop k0).take (k - k0) ++ (zs.drop k).take m = (zs.drop k0).take (k + m - k0) := by
  have e : k + m - k0 = (k - k0) + m := by omega
  have e2 : zs.drop k = (zs.drop k0).drop (k - k0) := by rw [List.drop_drop]; congr 1; omega
  rw [e, e2, List.take_add]

/-- m bytes read into the buffer -/
theorem RA.read (h : RA w0 w lb rb sb n c k0 N0 zs k b nx fs chv L) {w' : World} {m : Nat} (hz : zs.length = c) (hnc : n ≤ c) (hone : ∀ u ∈ zs, u.oneCell' = true) (hm1 : m ≤ n - k) (hm2 : m ≤ N0 - (k - k0)) (hm3 : m ≤ b.c - b.l)
    (hl : w'.heap[lb]? = some (.cells #[.iface 41 (.pointer (some ⟨rb, 0, none⟩)), .int .i64 ((N0 - (k - k0) - m : Nat) : Int)] 78 (0, 0)))
    (hr : w'.heap[rb]? = some (.cells #[.slice (some ⟨sb, 0, none⟩) n c, .int .i64 ((k + m : Nat) : Int)] 43 (0, 0)))
    (hb : w'.heap[b.g]? = some (.cells (splice b.cur b.l ((zs.drop k).take m)).toArray 5 (0, 0))) (hk : Kept [lb, rb, b.g] w w') :
    RA w0 w' lb rb sb n c k0 N0 zs (k + m) ⟨b.g, b.l + m, b.c, splice b.cur b.l ((zs.drop k).take m)⟩ nx fs chv L := by
  have hcl : ((zs.drop k).take m).length = m := by rw [List.length_take, List.length_drop]; have := h.k2; omega
  have hbl := h.buf.len
  have hbs := h.buf.size
  have hk2 := h.k2
  have hk1 := h.k1
  have hk3 := h.k3
  have hsum := h.sum
  have hd := dat_splice (cur := b.cur) (l := b.l) (by omega) hcl
  constructor
  case kept =>
    refine h.kept.then hk (fun t ht hlt => ?_)
    simp at ht
    rcases ht with rfl | rfl | rfl
    · simp
    · simp
    · exact absurd h.buf.low (by omega)
  case lim =>
    have e : N0 - (k + m - k0) = N0 - (k - k0) - m := by omega
    rw [e]
    exact hl
  case rdr => exact hr
  case buf => exact ⟨h.buf.low, hb, by show b.l + m ≤ b.c; omega, by show (splice b.cur b.l _).length = b.c; rw [length_splice _ _ _ (by omega)]; exact hbs, fun u hu => by
    have hu' : u ∈ (splice b.cur b.l ((zs.drop k).take m)).take (b.l + m) := hu
    rw [hd] at hu'
    rcases List.mem_append.1 hu' with hu1 | hu1
    · exact h.buf.one u hu1
    · exact hone u (List.mem_of_mem_drop (List.mem_of_mem_take hu1))⟩
  case bmax => exact h.bmax
  case bmin => exact h.bmin
  case chs => exact own_kept h.chs hk (fun g hg => by
    have e1 := own_ne h.chs h.lim (by decide) g hg
    have e2 := own_ne h.chs h.rdr (by decide) g hg
    have e3 := own_ne h.chs h.buf.row (by decide) g hg
    simp [e1, e2, e3])
  case each => exact fun x hx => ⟨(h.each x hx).1.kept hk (by
    have e1 := h.ne_lb (h.each x hx).1
    have e2 := h.ne_rb (h.each x hx).1
    have e3 := (h.each x hx).2
    simp [e1, e2, e3]), (h.each x hx).2⟩
  case data =>
    show _ ++ (splice b.cur b.l ((zs.drop k).take m)).take (b.l + m) = _
    rw [hd, ← List.append_assoc]
    have := h.data
    unfold Chunk.dat at this ⊢
    rw [this, take_more hk1]
  case sum => show fs + (b.l + m) = k + m - k0; omega
  case fsum => exact h.fsum
  case cnt => exact h.cnt
  case nx0 => exact h.nx0
  case nx1 => exact h.nx1
  case nx2 => exact h.nx2
  case k1 => omega
  case k2 => omega
  case k3 => omega

/-- the buffer joins the chunks; a new one is laid -/
theorem RA.push (h : RA w0 w lb rb sb n c k0 N0 zs k b nx fs chv L) {w1 w2 : World} {chv' : Value} {o : Obj} {cap : Nat} {cur : List Value} (hfull : b.c - b.l < b.c / 16)
    (ho : w1.ownsRow w0.heap.size 22 1 chv' (L.length + 1) (L.map Chunk.hdr ++ [b.hdr])) (hg : (w.alloc o).grownBy w1 chv.ownBlock)
    (hc1 : nx ≤ cap) (hc2 : cap ≤ maxLen) (hcl : cur.length = cap) (hrow : w2.heap[w1.heap.size]? = some (.cells cur.toArray 5 (0, 0))) (hk : Kept [] w1 w2) :
    RA w0 w2 lb rb sb n c k0 N0 zs k ⟨w1.heap.size, 0, cap, cur⟩ (nx + nx / 2) (fs + b.l) chv' (L ++ [b]) := by
  have hs0 : (w.alloc o).heap.size = w.heap.size + 1 := by simp
  have hs1 := hg.size
  have old : ∀ j, j < w.heap.size → (∀ g, chv.ownBlock = some g → g ≠ j) → w2.heap[j]? = w.heap[j]? := fun j hj hne =>
    (hk.block j (by omega) (by simp)).trans ((hg.block j (by omega) (fun e => hne j e.symm rfl)).trans (Below.heap_alloc _ _ _ hj))
  have hbl := h.buf.len
  have hbs := h.buf.size
  have hsum := h.sum
  have hks := h.kept.size
  have oldok : ∀ x : Chunk, x.ok w0.heap.size w → x.ok w0.heap.size w2 := fun x hx => ⟨hx.low, (old x.g (lt_box hx.row) (own_ne h.chs hx.row (by decide))).trans hx.row, hx.len, hx.size, hx.one⟩
  have hdl : b.dat.length = b.l := by unfold Chunk.dat; rw [List.length_take]; omega
  have hpos : 0 < b.l := by have := h.bmin; omega
  constructor
  case kept =>
    refine ⟨hk.os.trans (hg.os.trans h.kept.os), hk.tape.trans (hg.tape.trans h.kept.tape), hk.output.trans (hg.output.trans h.kept.output), by have := hk.size; omega, fun j hj hn => ?_⟩
    refine (old j (by omega) (fun g hgb e => ?_)).trans (h.kept.block j hj hn)
    have := (h.chs.lt g hgb).1
    omega
  case lim => exact (old lb (lt_box h.lim) (own_ne h.chs h.lim (by decide))).trans h.lim
  case rdr => exact (old rb (lt_box h.rdr) (own_ne h.chs h.rdr (by decide))).trans h.rdr
  case buf => exact ⟨by show w0.heap.size ≤ w1.heap.size; omega, hrow, Nat.zero_le _, hcl, fun u hu => by simp [Chunk.dat] at hu⟩
  case bmax => exact hc2
  case bmin => show 256 ≤ cap; have := h.nx0; omega
  case chs =>
    have := own_kept ho hk (by simp)
    simpa using this
  case each =>
    intro x hx
    rcases List.mem_append.1 hx with hx | hx
    · have := (h.each x hx).1
      exact ⟨oldok x this, by have := lt_box this.row; show x.g ≠ w1.heap.size; omega⟩
    · simp at hx
      subst hx
      exact ⟨oldok x h.buf, by have := lt_box h.buf.row; show x.g ≠ w1.heap.size; omega⟩
  case data =>
    have := h.data
    simpa [Chunk.dat] using this
  case sum => exact h.sum
  case fsum =>
    have := h.fsum
    rw [List.map_append, List.flatten_append, List.length_append, this]
    simp [hdl]
  case cnt => have := h.cnt; simp; omega
  case nx0 => have := h.nx0; omega
  case nx1 => have := h.nx1; have := h.nx2; omega
  case nx2 => show 2 * (nx + nx / 2) ≤ 3 * cap; omega
  case k1 => exact h.k1
  case k2 => exact h.k2
  case k3 => exact h.k3
end
end Go.Proofs.YbulkdswFmt
