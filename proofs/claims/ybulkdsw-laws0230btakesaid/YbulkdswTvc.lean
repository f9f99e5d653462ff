/-
  Seat b0230a: the walk of compareTopologyVersions (14).
-/
import Derived.Test.YbulkdswArr
namespace Go.Proofs.Ybulkdsw
open Go.RowKit Go.Shelf Go.Lib Go.Sort

theorem drewN_two (w : World) (a b : Nat) : (w.drewN a).drewN b = w.drewN (a + b) := by simp [World.drewN, Nat.add_assoc]

def tvCmp : Option (Int × Int) → Option (Int × Int) → Int
  | some (p, c), some (p', c') => if p = p' then (if c < c' then -1 else if c' < c then 1 else 0) else -1
  | _, _ => -1

set_option maxHeartbeats 1000000 in
theorem tvcmp_none1 (t2 : Option Addr) (w : World) : Calls Yba.prog 14 #[.pointer none, .pointer t2] w fun e w' => e = .returned (.int .i64 (-1)) ∧ ∃ q, w' = w.drewN q := by
  go_enter Yba.func14, Yba.ntmps14
  go_wp2
  go_quiet (fail)
  go_wp2
  go_ret
  exact ⟨rfl, _, rfl⟩

set_option maxHeartbeats 1000000 in
theorem tvcmp_none2 (a : Addr) (w : World) : Calls Yba.prog 14 #[.pointer (some a), .pointer none] w fun e w' => e = .returned (.int .i64 (-1)) ∧ ∃ q, w' = w.drewN q := by
  go_enter Yba.func14, Yba.ntmps14
  go_wp2
  go_quiet (fail)
  go_wp2
  go_ret
  exact ⟨rfl, _, rfl⟩

set_option maxHeartbeats 1000000 in
theorem tvcmp_two (b1 b2 : Nat) (p1 c1 c2 : Int) (w : World) (h1 : w.heap[b1]? = some (.cells (tvCells p1 c1) 57 (0, 0))) (h2 : w.heap[b2]? = some (.cells (tvCells p1 c2) 57 (0, 0))) :
    Calls Yba.prog 14 #[.pointer (some ⟨b1, 0, none⟩), .pointer (some ⟨b2, 0, none⟩)] w fun e w' => e = .returned (.int .i64 (if c1 < c2 then -1 else if c2 < c1 then 1 else 0)) ∧ ∃ q, w' = w.drewN q := by
  have l1 := lt_box h1
  have l2 := lt_box h2
  have f1 := fun i => box_cell h1 i
  have f2 := fun i => box_cell h2 i
  simp only [tvCells] at f1 f2
  have hc := fun W => cmp64_any c1 c2 W
  generalize (if c1 < c2 then (-1 : Int) else if c2 < c1 then 1 else 0) = r at hc ⊢
  have HC := hide' hc
  clear hc
  have hne := fun W => arr_neq p1 p1 W
  simp only [bne_self_eq_false] at hne
  clear h1 h2
  go_enter Yba.func14, Yba.ntmps14
  go_wp2
  go_quiet (fail)
  go_wp2
  go_quiet (first | (go_at_call 28; exact (HC.out _).mono fun _ _ h => ⟨h.1, _, h.2⟩))
  go_wp2
  go_ret
  exact ⟨rfl, _, drewN_two _ _ _⟩

set_option maxHeartbeats 1000000 in
theorem tvcmp_apart (b1 b2 : Nat) (p1 c1 p2 c2 : Int) (w : World) (h1 : w.heap[b1]? = some (.cells (tvCells p1 c1) 57 (0, 0))) (h2 : w.heap[b2]? = some (.cells (tvCells p2 c2) 57 (0, 0))) (hp : p1 ≠ p2) :
    Calls Yba.prog 14 #[.pointer (some ⟨b1, 0, none⟩), .pointer (some ⟨b2, 0, none⟩)] w fun e w' => e = .returned (.int .i64 (-1)) ∧ ∃ q, w' = w.drewN q := by
  have l1 := lt_box h1
  have l2 := lt_box h2
  have f1 := fun i => box_cell h1 i
  have f2 := fun i => box_cell h2 i
  simp only [tvCells] at f1 f2
  have hpb : (p1 != p2) = true := by simpa using hp
  have hne := fun W => arr_neq p1 p2 W
  simp only [hpb] at hne
  clear h1 h2 hpb
  go_enter Yba.func14, Yba.ntmps14
  go_wp2
  go_quiet (fail)
  go_wp2
  go_ret
  exact ⟨rfl, _, rfl⟩

theorem tvcmp_any (t1 t2 : Option Addr) (x1 x2 : Option (Int × Int)) (w : World) (h1 : TVAt w t1 x1) (h2 : TVAt w t2 x2) :
    Calls Yba.prog 14 #[.pointer t1, .pointer t2] w fun e w' => e = .returned (.int .i64 (tvCmp x1 x2)) ∧ ∃ q, w' = w.drewN q := by
  match x1, x2, h1, h2 with
  | none, _, h1, _ =>
    have e : t1 = none := h1
    subst e
    exact tvcmp_none1 t2 w
  | some (p, c), none, h1, h2 =>
    have e : t2 = none := h2
    obtain ⟨b, e1, _⟩ := h1
    subst e
    subst e1
    exact tvcmp_none2 _ w
  | some (p, c), some (p', c'), h1, h2 =>
    obtain ⟨b, e1, k1⟩ := h1
    obtain ⟨b', e2, k2⟩ := h2
    subst e1
    subst e2
    by_cases hp : p = p'
    · subst hp
      have := tvcmp_two b b' p c c' w k1 k2
      simpa [tvCmp] using this
    · have := tvcmp_apart b b' p c p' c' w k1 k2 hp
      simpa [tvCmp, hp] using this
end Go.Proofs.Ybulkdsw
