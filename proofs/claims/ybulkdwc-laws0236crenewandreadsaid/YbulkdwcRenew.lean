/-
  Seat b0236a: expired (24), finiteNonNegative (35), add (25), renew (20).
-/
import Derived.Test.YbulkdwcHooks
namespace Go.Proofs.Ybulkdwc
open Go.RowKit

/-- a load weight's twelve cells -/
def lwCells (rep : Bool) (last : Int) (wt : Nat) (ad : ByteArray) (gone : Bool) : Array Value :=
  #[.int .i32 0, .int .u32 0, .bool rep, .int .u64 0, .int .i64 0, .pointer none, .int .u64 (last % 1000000000), .int .i64 (last / 1000000000), .pointer none, .float .f64 wt, .string ad, .bool gone]
/-- the settings' nine cells -/
def seCells (ex : Int) : Array Value := #[.int .i64 0, .int .i64 ex, .int .i64 0, .float .f64 0, .bool false, .int .i64 0, .nilFunc, .nilIface, .nilIface]

set_option maxRecDepth 100000 in
set_option maxHeartbeats 2000000 in
theorem expired_any (lw sb : Nat) (rep : Bool) (last now ex : Int) (wt : Nat) (ad : ByteArray) (gone : Bool) (w : World) (hl : w.heap[lw]? = some (.cells (lwCells rep last wt ad gone) 78 (0, 0))) (hs : w.heap[sb]? = some (.cells (seCells ex) 57 (0, 0)))
    (h1 : -4000000000000 ≤ last) (h2 : last ≤ 4000000000000) (h3 : -4000000000000 ≤ now) (h4 : now ≤ 4000000000000) :
    Calls Yba.prog 24 #[.pointer (some ⟨lw, 0, none⟩), .agg (tmCells now), .pointer (some ⟨sb, 0, none⟩)] w fun e w' => e = .returned (.bool (rep && decide (ex < now - last))) ∧ Kept [] w w' := by
  obtain ⟨W, eW, hW⟩ : ∃ W, W = w.alloc (.cells (tmCells now) 46) ∧ Kept [] w W := ⟨_, rfl, (Kept.refl _ _).alloc _⟩
  have hT : W.heap[w.heap.size]? = some (.cells (tmCells now) 46 (0, 0)) := by rw [eW]; exact heap_alloc_new _ _
  obtain ⟨tb, htb⟩ : ∃ tb, w.heap.size = tb := ⟨_, rfl⟩
  have hl' := (hW.block lw (lt_box hl) (by simp)).trans hl
  have hs' := (hW.block sb (lt_box hs) (by simp)).trans hs
  rw [htb] at hT
  have l2 : W.cell? ⟨lw, 2, none⟩ = some (.bool rep) := (box_cell hl' 2).trans rfl
  have l6 : W.cell? ⟨lw, 6, none⟩ = some (.int .u64 (last % 1000000000)) := (box_cell hl' 6).trans rfl
  have l7 : W.cell? ⟨lw, 7, none⟩ = some (.int .i64 (last / 1000000000)) := (box_cell hl' 7).trans rfl
  have l8 : W.cell? ⟨lw, 8, none⟩ = some (.pointer none) := (box_cell hl' 8).trans rfl
  have s1 : W.cell? ⟨sb, 1, none⟩ = some (.int .i64 ex) := (box_cell hs' 1).trans rfl
  have t0 : W.cell? ⟨tb, 0, none⟩ = some (.int .u64 (now % 1000000000)) := (box_cell hT 0).trans rfl
  have t1 : W.cell? ⟨tb, 1, none⟩ = some (.int .i64 (now / 1000000000)) := (box_cell hT 1).trans rfl
  have t2 : W.cell? ⟨tb, 2, none⟩ = some (.pointer none) := (box_cell hT 2).trans rfl
  have Ll := lt_box hl'
  have Ls := lt_box hs'
  have Lt := lt_box hT
  have HS := hide' (show ∀ W, Calls Yba.prog 34 #[.agg #[.int .u64 (now % 1000000000), .int .i64 (now / 1000000000), .pointer none], .agg #[.int .u64 (last % 1000000000), .int .i64 (last / 1000000000), .pointer none]] W fun e w' => e = .returned (.int .i64 (now - last)) ∧ Kept [] W w' from fun W => sub_any now last W h3 h4 h1 h2)
  have HK := hide' hW
  have HEW := hide' eW
  clear hl hs hl' hs' hT hW
  cases rep
  · go_enter Yba.func24, Yba.ntmps24
    go_upto_region 1 with fail
    rw [← HEW.out]
    clear eW htb HEW
    go_quiet (fail)
    go_wp2_with fail
    go_ret
    exact ⟨rfl, HK.out.drewN' _⟩
  · go_enter Yba.func24, Yba.ntmps24
    go_upto_region 1 with fail
    rw [← HEW.out]
    clear eW htb HEW
    go_region_held3 (fun w' => w'.cell? ⟨lw, 2, none⟩ = some (.bool true) ∧ w'.cell? ⟨lw, 6, none⟩ = some (.int .u64 (last % 1000000000)) ∧ w'.cell? ⟨lw, 7, none⟩ = some (.int .i64 (last / 1000000000)) ∧ w'.cell? ⟨lw, 8, none⟩ = some (.pointer none) ∧ w'.cell? ⟨sb, 1, none⟩ = some (.int .i64 ex) ∧ w'.cell? ⟨tb, 0, none⟩ = some (.int .u64 (now % 1000000000)) ∧ w'.cell? ⟨tb, 1, none⟩ = some (.int .i64 (now / 1000000000)) ∧ w'.cell? ⟨tb, 2, none⟩ = some (.pointer none)) (go_keep)
      (first | (go_at_call 34; refine (HS.out _).mono ?_; rintro e w2 ⟨rfl, k2⟩; have q2 := (k2.cell (p := ⟨lw, 2, none⟩) Ll (by simp)).trans l2; have q6 := (k2.cell (p := ⟨lw, 6, none⟩) Ll (by simp)).trans l6; have q7 := (k2.cell (p := ⟨lw, 7, none⟩) Ll (by simp)).trans l7; have q8 := (k2.cell (p := ⟨lw, 8, none⟩) Ll (by simp)).trans l8; have r1 := (k2.cell (p := ⟨sb, 1, none⟩) Ls (by simp)).trans s1; have u0 := (k2.cell (p := ⟨tb, 0, none⟩) Lt (by simp)).trans t0; have u1 := (k2.cell (p := ⟨tb, 1, none⟩) Lt (by simp)).trans t1; have u2 := (k2.cell (p := ⟨tb, 2, none⟩) Lt (by simp)).trans t2; have K2 := hide' (HK.out.drew.then k2 (by simp))))
    go_wp2_with fail
    go_ret
    exact ⟨rfl, K2.out⟩

def geZ (b : Nat) : Bool := FloatKind.f64.format.order b 0 == some .gt || FloatKind.f64.format.order b 0 == some .eq
def leM (b : Nat) : Bool := FloatKind.f64.format.order b 9218868437227405311 == some .lt || FloatKind.f64.format.order b 9218868437227405311 == some .eq
def fin (b : Nat) : Bool := geZ b && leM b
theorem ge_run (b : Nat) (W : World) : (binOp .geq 50 (.float .f64 b) (.float .f64 0)).run Yba.prog W = .ok (.bool (geZ b)) W := by
  simp [binOp, Op.floatCmp, geZ]
theorem le_run (b : Nat) (W : World) : (binOp .leq 50 (.float .f64 b) (.float .f64 9218868437227405311)).run Yba.prog W = .ok (.bool (leM b)) W := by
  simp [binOp, Op.floatCmp, leM]

set_option maxHeartbeats 1000000 in
theorem fin_any (b : Nat) (w : World) : Calls Yba.prog 35 #[.float .f64 b] w fun e w' => e = .returned (.bool (fin b)) ∧ w' = w := by
  have g1 := fun W => ge_run b W
  have g2 := fun W => le_run b W
  unfold fin
  generalize geZ b = x at g1 ⊢
  generalize leM b = y at g2 ⊢
  cases x
  · go_enter Yba.func35, Yba.ntmps35
    go_wp2
    go_ret
    exact ⟨rfl, rfl⟩
  · go_enter Yba.func35, Yba.ntmps35
    go_wp2
    go_ret
    exact ⟨rfl, rfl⟩

@[go_sem] theorem methodAdd (a : Addr) (w : World) : (method 262 58 (.pointer (some a)) "Add").run Yba.prog w = .ok (68, .pointer (some a)) w := by kernel_rfl
@[go_sem] theorem methodRemove (a : Addr) (w : World) : (method 262 58 (.pointer (some a)) "Remove").run Yba.prog w = .ok (70, .pointer (some a)) w := by kernel_rfl
@[go_sem] theorem methodRebuild (a : Addr) (w : World) : (method 262 58 (.pointer (some a)) "Rebuild").run Yba.prog w = .ok (69, .pointer (some a)) w := by kernel_rfl
@[go_sem] theorem nilAdd (a : Addr) (w : World) : (nilAhead 262 58 (.pointer (some a)) "Add").run Yba.prog w = .ok (some false) w := by kernel_rfl
@[go_sem] theorem nilRemove (a : Addr) (w : World) : (nilAhead 262 58 (.pointer (some a)) "Remove").run Yba.prog w = .ok (some false) w := by kernel_rfl
@[go_sem] theorem nilRebuild (a : Addr) (w : World) : (nilAhead 262 58 (.pointer (some a)) "Rebuild").run Yba.prog w = .ok (some false) w := by kernel_rfl

/-- what 'add' answers -/
def addW (xs : Nat → Nat) (an k : Nat) : Nat := if fin (if k < an then xs k else 0) then (if k < an then xs k else 0) else 0

set_option maxRecDepth 100000 in
set_option maxHeartbeats 1000000 in
theorem wadd_any (B gb hb : Nat) (mu : Int) (ao : Option Addr) (an ac k : Nat) (L : List En) (at_ : Int) (xs : Nat → Nat) (s : ByteArray) (w : World) (hg : w.heap[gb]? = some (.cells #[.int .i32 mu, .int .u32 0, .iface 58 (.pointer (some ⟨hb, 0, none⟩))] 72 (0, 0)))
    (h : HK B w hb ao an ac k L at_) (ha : AnsAt B w ao an xs) (hbB : B ≤ hb) (hB : B ≤ w.heap.size) (hL : L.length ≤ 5000) (hk5 : k ≤ 5000) (han : an ≤ 1024) :
    Calls Yba.prog 25 #[.pointer (some ⟨gb, 0, none⟩), .string s] w fun e w' => e = .returned (.float .f64 (addW xs an k)) ∧ HK B w' hb ao an ac (k + 1) (L ++ [(65, s)]) at_ ∧ Fr B hb w w' := by
  have g2 : w.cell? ⟨gb, 2, none⟩ = some (.iface 58 (.pointer (some ⟨hb, 0, none⟩))) := (box_cell hg 2).trans rfl
  have ha2 := hadd_any B hb ao an ac k L at_ xs s w h ha hbB hB hL hk5 han
  unfold addW
  generalize (if k < an then xs k else 0) = r at ha2 ⊢
  have HA := hide' ha2
  clear hg h ha ha2
  have HFI := hide' (fun W => fin_any r W)
  cases hf : fin r
  · rw [hf] at HFI
    clear hf
    go_enter Yba.func25, Yba.ntmps25
    go_wp2_with fail
    refine Calls.mono HA.out ?_
    rintro e w1 ⟨rfl, hk1, fr1⟩
    have HK1 := hide' hk1
    have FR1 := hide' fr1
    clear hk1 fr1 HA g2
    go_wp2_with (go_at_call 35; refine (HFI.out _).mono ?_; rintro e w2 ⟨rfl, e2⟩; replace e2 := e2.symm; subst e2)
    go_ret
    exact ⟨rfl, HK1.out, FR1.out⟩
  · rw [hf] at HFI
    clear hf
    go_enter Yba.func25, Yba.ntmps25
    go_wp2_with fail
    refine Calls.mono HA.out ?_
    rintro e w1 ⟨rfl, hk1, fr1⟩
    have HK1 := hide' hk1
    have FR1 := hide' fr1
    clear hk1 fr1 HA g2
    go_wp2_with (go_at_call 35; refine (HFI.out _).mono ?_; rintro e w2 ⟨rfl, e2⟩; replace e2 := e2.symm; subst e2)
    go_ret
    exact ⟨rfl, HK1.out, FR1.out⟩
end Go.Proofs.Ybulkdwc
