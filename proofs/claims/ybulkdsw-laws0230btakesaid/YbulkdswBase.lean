/-
  Seat b0230a: what is kept; addresses; topology versions; the small walks (4, 5, 7, 27, 28, 14).
-/
import Derived.Test.YbulkdswProg
import Derived.Outline
import Derived.WalkKit
import Derived.OwnWalk
import Derived.RegionTactic
import Derived.BigQuiet
import Derived.Deep.QuietTactic
import Derived.Deep.RegionHeld3
import Derived.Deep.AppendLies
import Derived.WalkSpells
import Derived.Deep.RegionLaw
import Derived.Below
import Derived.Shelf.Small.Strs
import Derived.Shelf.SlSortCmp.InsertionK
import Derived.Shelf.Lay
import Derived.Ground.NamesProg
namespace Go.Proofs.Ybulkdsw
open Go.RowKit Go.Shelf Go.Lib Go.Sort

/-- what a call leaves alone: every old block but those named -/
structure Kept (S : List Nat) (w w' : World) : Prop where
  os : w'.os = w.os
  tape : w'.tape = w.tape
  output : w'.output = w.output
  size : w.heap.size ≤ w'.heap.size
  block : ∀ k, k < w.heap.size → k ∉ S → w'.heap[k]? = w.heap[k]?
theorem Kept.refl (S : List Nat) (w : World) : Kept S w w := ⟨rfl, rfl, rfl, Nat.le_refl _, fun _ _ _ => rfl⟩
theorem Kept.trans {S : List Nat} {a b c : World} (h : Kept S a b) (k : Kept S b c) : Kept S a c :=
  ⟨k.os.trans h.os, k.tape.trans h.tape, k.output.trans h.output, Nat.le_trans h.size k.size, fun i hi hn => (k.block i (Nat.lt_of_lt_of_le hi h.size) hn).trans (h.block i hi hn)⟩
/-- a later change may touch what is new, or what the list names -/
theorem Kept.then {S T : List Nat} {a b c : World} (h : Kept S a b) (k : Kept T b c) (hT : ∀ t ∈ T, t < a.heap.size → t ∈ S) : Kept S a c :=
  ⟨k.os.trans h.os, k.tape.trans h.tape, k.output.trans h.output, Nat.le_trans h.size k.size, fun i hi hn => (k.block i (Nat.lt_of_lt_of_le hi h.size) (fun ht => hn (hT i ht hi))).trans (h.block i hi hn)⟩
theorem Kept.drewN (S : List Nat) (w : World) (q : Nat) : Kept S w (w.drewN q) := ⟨rfl, rfl, rfl, Nat.le_refl _, fun _ _ _ => rfl⟩
theorem Kept.drew {S : List Nat} {a b : World} (h : Kept S a b) : Kept S a b.drew := ⟨h.os, h.tape, h.output, h.size, h.block⟩
theorem Kept.drewN' {S : List Nat} {a b : World} (h : Kept S a b) (q : Nat) : Kept S a (b.drewN q) := ⟨h.os, h.tape, h.output, h.size, h.block⟩
theorem Kept.alloc {S : List Nat} {a b : World} (h : Kept S a b) (o : Obj) : Kept S a (b.alloc o) :=
  ⟨h.os, h.tape, h.output, by simp; have := h.size; omega, fun i hi hn => (Below.heap_alloc _ _ _ (Nat.lt_of_lt_of_le hi h.size)).trans (h.block i hi hn)⟩
theorem Kept.setCell {S : List Nat} {a b : World} (h : Kept S a b) (p : Addr) (v : Value) (hp : p.block < a.heap.size → p.block ∈ S) : Kept S a (b.setCell p v) :=
  ⟨h.os, h.tape, h.output, by simp [World.setCell]; exact h.size, fun i hi hn => (Below.heap_setCell _ _ _ _ (fun e => hn (by rw [e] at hi ⊢; exact hp hi))).trans (h.block i hi hn)⟩
theorem Kept.setRow {S : List Nat} {a b : World} (h : Kept S a b) (g : Nat) (cs : Array Value) (hp : g < a.heap.size → g ∈ S) : Kept S a (b.setRow g cs) :=
  ⟨h.os, h.tape, h.output, by simp [World.setRow]; exact h.size, fun i hi hn => (setRow_other b g i cs (fun e => hn (by rw [e] at hi ⊢; exact hp hi))).trans (h.block i hi hn)⟩
theorem Kept.below {S : List Nat} {B : Nat} {a b c : World} (h : Below B a b) (k : Kept S b c) (hS : ∀ s ∈ S, B ≤ s) (hB : B ≤ b.heap.size) : Below B a c :=
  ⟨k.os.trans h.os, k.tape.trans h.tape, k.output.trans h.output, Nat.le_trans h.size k.size, fun i hi => (k.block i (by omega) (fun hs => by have := hS i hs; omega)).trans (h.block i hi)⟩
theorem Kept.cell {S : List Nat} {a b : World} (h : Kept S a b) {p : Addr} (hp : p.block < a.heap.size) (hn : p.block ∉ S) : b.cell? p = a.cell? p := World.cell?_of_block (h.block p.block hp hn)

theorem hide' {p : Prop} (h : p) : Hid p := h
theorem box_cell {w : World} {bp : Nat} {cs : Array Value} {t : TypeId} (h : w.heap[bp]? = some (.cells cs t (0, 0))) (i : Nat) : w.cell? ⟨bp, i, none⟩ = cs[i]? := by
  simp [World.cell?, h]
theorem free_box {w : World} {b i : Nat} {C : Array Value} {e : TypeId} (h : w.heap[b]? = some (.cells C e (0, 0))) : w.frozen? ⟨b, i, none⟩ = false := by simp [World.frozen?, h]
theorem lt_box {w : World} {b : Nat} {o : Obj} (h : w.heap[b]? = some o) : b < w.heap.size := (Array.getElem?_eq_some_iff.1 h).1
theorem set_block {w : World} {b i : Nat} {u : Value} {cs : Array Value} {t : TypeId} {fr : Nat × Nat} (h : w.heap[b]? = some (.cells cs t fr)) : (w.setCell ⟨b, i, none⟩ u).heap[b]? = some (.cells (cs.setIfInBounds i u) t fr) := by
  have hlt := (Array.getElem?_eq_some_iff.1 h).1
  have h' : w.heap[b] = .cells cs t fr := by simpa [Array.getElem?_eq_getElem hlt] using h
  show (w.heap.modify b _)[b]? = _
  rw [Array.getElem?_eq_getElem (by simpa using hlt), Array.getElem_modify_self, h']
  rfl


/-- the six addresses -/
def addrL : Fin 6 → List UInt8
  | 0 => [97, 58, 49]
  | 1 => [98, 58, 50]
  | 2 => [99, 58, 51]
  | 3 => [100, 58, 52]
  | 4 => [101, 58, 53]
  | 5 => [122, 58, 57]
def addrS (k : Fin 6) : ByteArray := ⟨(addrL k).toArray⟩
/-- the order of two addresses is that of their numbers -/
def cmpK (a b : Fin 6) : Int := if a < b then -1 else if b < a then 1 else 0
theorem compare_addr : ∀ a b : Fin 6, Lib.compareBytes (addrS a).data.toList (addrS b).data.toList = cmpK a b := by decide
theorem addrS_inj : ∀ a b : Fin 6, addrL a = addrL b → a = b := by decide

shelf_lay Lays.n106 Nm 106 at Yba as Yba.strCmp

theorem compare_any (a b : Fin 6) (w : World) : Calls Yba.prog 8 #[.string (addrS a), .string (addrS b)] w fun e w' => e = .returned (.int .i64 (cmpK a b)) ∧ w' = w := by
  have h := Any.strings_Compare Yba.strCmp (addrS a) (addrS b) w
  rw [compare_addr] at h
  exact h

set_option maxHeartbeats 1000000 in
theorem addr_any (k n : Nat) (hk : k < 256) (hn : n = 5 ∨ n = 6) (w : World) : Calls Yba.prog 4 #[.int .u8 k, .int .i64 n] w fun e w' => (∃ f : Fin 6, f.val = k % n ∧ e = .returned (.string (addrS f))) ∧ w' = w := by
  have hr' : (k : Int).tmod (n : Int) = ((k % n : Nat) : Int) := by
    rw [Int.tmod_eq_emod_of_nonneg (by omega)]
    omega
  have h6 : k % n < 6 := by rcases hn with rfl | rfl <;> omega
  have hn0 : ¬ (n : Int) = 0 := by omega
  obtain ⟨r, hr⟩ : ∃ r, k % n = r := ⟨_, rfl⟩
  rw [hr] at hr' h6
  have hc : r = 0 ∨ r = 1 ∨ r = 2 ∨ r = 3 ∨ r = 4 ∨ r = 5 := by omega
  have hk' : (k : Int) < 256 := by omega
  have HR := hide' hr
  clear hr hn
  rcases hc with rfl | rfl | rfl | rfl | rfl | rfl
  all_goals
    go_enter Yba.func4, Yba.ntmps4
    go_wp2
    go_ret
  · exact ⟨⟨0, HR.out.symm, rfl⟩, rfl⟩
  · exact ⟨⟨1, HR.out.symm, rfl⟩, rfl⟩
  · exact ⟨⟨2, HR.out.symm, rfl⟩, rfl⟩
  · exact ⟨⟨3, HR.out.symm, rfl⟩, rfl⟩
  · exact ⟨⟨4, HR.out.symm, rfl⟩, rfl⟩
  · exact ⟨⟨5, HR.out.symm, rfl⟩, rfl⟩

/-- a topology version's thirteen cells -/
def tvCells (p c : Int) : Array Value := #[.int .u8 p, .int .u8 0, .int .u8 0, .int .u8 0, .int .u8 0, .int .u8 0, .int .u8 0, .int .u8 0, .int .u8 0, .int .u8 0, .int .u8 0, .int .u8 0, .int .i64 c]
/-- a pointer to such, or nil -/
def TVAt (w : World) (t : Option Addr) : Option (Int × Int) → Prop
  | none => t = none
  | some (p, c) => ∃ b, t = some ⟨b, 0, none⟩ ∧ w.heap[b]? = some (.cells (tvCells p c) 57 (0, 0))
def tvOf (has : Bool) (p c : Int) : Option (Int × Int) := if has then some (p, c) else none

set_option maxHeartbeats 1000000 in
theorem tv_any (has : Bool) (p : Nat) (c : Int) (hp : p < 256) (w : World) : Calls Yba.prog 5 #[.bool has, .int .u8 p, .int .i64 c] w fun e w' => (∃ t, e = .returned (.pointer t) ∧ TVAt w' t (tvOf has ((p % 2 : Nat) : Int) c) ∧ ∀ a, t = some a → w.heap.size ≤ a.block) ∧ Kept [] w w' := by
  have hp' : (p : Int) < 256 := by omega
  cases has
  · go_enter Yba.func5, Yba.ntmps5
    go_wp2
    go_ret
    exact ⟨⟨none, rfl, rfl, fun a h => by cases h⟩, Kept.refl _ _⟩
  · go_enter Yba.func5, Yba.ntmps5
    go_wp2
    go_ret
    exact ⟨⟨_, rfl, ⟨_, rfl, heap_alloc_new _ _⟩, fun a h => by cases h; exact Nat.le_refl _⟩, (Kept.refl _ _).alloc _⟩

/-- a server's twenty-six cells: its address, its set's name, its version, its pool's generation -/
def sdCells (a n : ByteArray) (t : Option Addr) (g : Int) : List Value :=
  [.string a, .int .i64 0, .string n, .pointer none, .pointer none, .string ⟨#[]⟩, .string ⟨#[]⟩, .slice none 0 0, .slice none 0 0, .slice none 0 0, .map none, .int .i64 0, .int .i64 0, .pointer none, .pointer t,
    .int .u64 0, .int .i64 0, .pointer none, .pointer none, .int .i64 0, .int .i64 0, .int .u64 0, .int .i64 0, .pointer none, .nilIface, .int .u64 g]
abbrev E := Fin 6 × Option Addr × Int
def encE (x : E) : List Value := sdCells (addrS x.1) ⟨#[]⟩ x.2.1 x.2.2
theorem encE_len (x : E) : (encE x).length = 26 := rfl
theorem sd_one (a n : ByteArray) (t : Option Addr) (g : Int) : ∀ v ∈ sdCells a n t g, v.oneCell' = true := by
  intro v hv
  have h : (sdCells a n t g).all (·.oneCell') = true := rfl
  exact List.all_eq_true.1 h v hv

set_option maxHeartbeats 1000000 in
theorem closure7 (x y : E) (W : World) : Calls Yba.prog 7 #[.agg (encE x).toArray, .agg (encE y).toArray] W fun e w' => e = .returned (.int .i64 (cmpK x.1 y.1)) ∧ ∃ q os', w' = grow (W.drewN q) os' := by
  have hcon := hide' (fun W' => compare_any x.1 y.1 W')
  simp only [encE, sdCells]
  go_enter Yba.func7, Yba.ntmps7
  go_wp2_with (go_at_call 8; refine (hcon.out _).mono ?_; rintro e w' ⟨rfl, rfl⟩)
  go_ret
  exact ⟨rfl, 0, _, by rw [alloc_eq_grow, alloc_eq_grow, grow_grow]; rfl⟩

set_option maxHeartbeats 1000000 in
theorem closure27 (x : E) (y : Fin 6) (W : World) : Calls Yba.prog 27 #[.agg (encE x).toArray, .string (addrS y)] W fun e w' => e = .returned (.int .i64 (cmpK x.1 y)) ∧ Kept [] W w' := by
  have hcon := hide' (fun W' => compare_any x.1 y W')
  simp only [encE, sdCells]
  go_enter Yba.func27, Yba.ntmps27
  go_wp2_with (go_at_call 8; refine (hcon.out _).mono ?_; rintro e w' ⟨rfl, rfl⟩)
  go_ret
  exact ⟨rfl, (Kept.refl _ _).alloc _⟩

set_option maxHeartbeats 1000000 in
theorem nan_any (x : Int) (w : World) : Calls Yba.prog 34 #[.int .i64 x] w fun e w' => e = .returned (.bool false) ∧ w' = w := by
  go_enter Yba.func34, Yba.ntmps34
  go_wp2
  go_ret
  exact ⟨rfl, rfl⟩

set_option maxHeartbeats 1000000 in
theorem cmp64_any (x y : Int) (w : World) : Calls Yba.prog 28 #[.int .i64 x, .int .i64 y] w fun e w' => e = .returned (.int .i64 (if x < y then -1 else if y < x then 1 else 0)) ∧ w' = w := by
  have hn := hide' nan_any
  by_cases h1 : x < y
  · rw [if_pos h1]
    go_enter Yba.func28, Yba.ntmps28
    go_wp2_with (go_at_call 34; refine (hn.out _ _).mono ?_; rintro e w' ⟨rfl, rfl⟩)
    go_ret
    exact ⟨rfl, rfl⟩
  · rw [if_neg h1]
    by_cases h2 : y < x
    · rw [if_pos h2]
      go_enter Yba.func28, Yba.ntmps28
      go_wp2_with (go_at_call 34; refine (hn.out _ _).mono ?_; rintro e w' ⟨rfl, rfl⟩)
      go_ret
      exact ⟨rfl, rfl⟩
    · rw [if_neg h2]
      go_enter Yba.func28, Yba.ntmps28
      go_wp2_with (go_at_call 34; refine (hn.out _ _).mono ?_; rintro e w' ⟨rfl, rfl⟩)
      go_ret
      exact ⟨rfl, rfl⟩

end Go.Proofs.Ybulkdsw
