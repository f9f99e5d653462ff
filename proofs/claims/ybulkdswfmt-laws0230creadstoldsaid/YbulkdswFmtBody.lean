/-
  Seat b0230aF: the walks of io.LimitReader (27), readBody (20).
-/
import Derived.Test.YbulkdswFmtAll
namespace Go.Proofs.YbulkdswFmt
open Go.RowKit

set_option maxHeartbeats 1000000 in
theorem limitReader_any (rb : Nat) (N : Int) (w : World) :
    Calls Ybaf.prog 27 #[.iface 41 (.pointer (some ⟨rb, 0, none⟩)), .int .i64 N] w fun e w' => e = .returned (.iface 76 (.pointer (some ⟨w.heap.size, 0, none⟩))) ∧ w' = w.alloc (.cells #[.iface 41 (.pointer (some ⟨rb, 0, none⟩)), .int .i64 N] 78) := by
  go_enter Ybaf.func27, Ybaf.ntmps27
  go_wp2
  go_ret
  exact ⟨rfl, rfl⟩

/-- the body as it came -/
def Body (w : World) (rb sb n c k0 N : Nat) (zs : List Value) (e : Ending) (w' : World) : Prop :=
  ∃ (g cap : Nat) (cur : List Value), e = .returned (.tuple #[.slice (some ⟨g, 0, none⟩) N cap, .nilIface]) ∧ w'.heap[g]? = some (.cells cur.toArray 5 (0, 0)) ∧
      cur.take N = (zs.drop k0).take N ∧ N ≤ cap ∧ cur.length = cap ∧ w'.heap[rb]? = some (.cells #[.slice (some ⟨sb, 0, none⟩) n c, .int .i64 ((k0 + N : Nat) : Int)] 43 (0, 0)) ∧ Kept [rb] w w'

theorem body_world {w W W2 : World} {rb : Nat} {L q s o : Value} {x : Obj} (hrb : rb < w.heap.size) (e : W = (w.alloc (.cells #[L, q, s, o] 45)).alloc x) (hk : Kept [w.heap.size + 1, rb] W W2) : Kept [rb] w W2 := by
  subst e
  refine (((Kept.refl [rb] w).alloc _).alloc _).then hk (fun t ht hlt => ?_)
  simp at ht
  rcases ht with rfl | rfl
  · omega
  · simp

set_option maxHeartbeats 2000000 in
theorem body_full (rb sb n c k0 N : Nat) (ea : Addr) (q s o : Int) (zs : List Value) (w : World)
    (hr : w.heap[rb]? = some (.cells #[.slice (some ⟨sb, 0, none⟩) n c, .int .i64 k0] 43 (0, 0)))
    (hz : w.heap[sb]? = some (.cells zs.toArray 5 (0, 0))) (hone : ∀ u ∈ zs, u.oneCell' = true) (hzl : zs.length = c) (hk : k0 ≤ n) (hn : n ≤ c) (hc : c ≤ 2000) (hN : N + 16 ≤ 48000000)
    (hev : w.cell? ⟨1, 0, none⟩ = some (.iface 71 (.pointer (some ea)))) (hlow : 1 < rb) (hfull : N ≤ n - k0) :
    Calls Ybaf.prog 20 #[.iface 41 (.pointer (some ⟨rb, 0, none⟩)), .agg #[.int .i32 ((N : Int) + 16), .int .i32 q, .int .i32 s, .int .i32 o]] w fun e w' => Body w rb sb n c k0 N zs e w' := by
  have hN' : (N : Int) + 16 ≤ 48000000 := by omega
  have hrs := lt_box hr
  have hzs := lt_box hz
  have HR := hide' (fun (W : World) (hs : w.heap.size + 1 < W.heap.size) (hW : Kept [] w W) (hl : W.heap[w.heap.size + 1]? = some (.cells #[.iface 41 (.pointer (some ⟨rb, 0, none⟩)), .int .i64 N] 78 (0, 0))) =>
    readAll_any (w.heap.size + 1) rb sb n c k0 N ea zs W hl ((hW.block rb hrs (by simp)).trans hr) ((hW.block sb hzs (by simp)).trans hz) hone hzl hk hn hc (by omega) ((hW.cell (by show 1 < w.heap.size; omega) (by simp)).trans hev) ⟨by omega, hlow⟩)
  clear hr hz hone hev
  go_enter Ybaf.func20, Ybaf.ntmps20
  go_wp2_with fail
  refine (limitReader_any rb _ _).mono ?_
  rintro e W ⟨rfl, hW⟩
  have WS := hide' (show w.heap.size + 1 < W.heap.size by rw [hW]; simp)
  have WK := hide' (show Kept [] w W by rw [hW]; exact ((Kept.refl _ _).alloc _).alloc _)
  have WL := hide' (show W.heap[w.heap.size + 1]? = some (.cells #[.iface 41 (.pointer (some ⟨rb, 0, none⟩)), .int .i64 N] 78 (0, 0)) by
    rw [hW]
    have := heap_alloc_new (w.alloc (.cells #[.int .i32 ((N : Int) + 16), .int .i32 q, .int .i32 s, .int .i32 o] 45)) (.cells #[.iface 41 (.pointer (some ⟨rb, 0, none⟩)), .int .i64 (N : Int)] 78)
    simpa using this)
  have WB := hide' (fun (W2 : World) (hk : Kept [w.heap.size + 1, rb] W W2) => body_world hrs hW hk)
  clear hW
  go_wp2_with fail
  refine Calls.mono (HR.out W WS.out WK.out WL.out) ?_
  rintro e W2 ⟨g, l, cap, cur, rfl, h1, _, h3, h4, h5, h6, h7, h8⟩
  obtain rfl : l = N := by omega
  have FIN := hide' (show Body w rb sb n c k0 l zs (.returned (.tuple #[.slice (some ⟨g, 0, none⟩) l cap, .nilIface])) W2 from ⟨g, cap, cur, rfl, h1, h4, h5, h6, h7, WB.out W2 h8⟩)
  clear h1 h3 h4 h5 h6 h7 h8 HR WB WL WK WS
  go_wp2_with fail
  go_ret2
  exact FIN.out

set_option maxHeartbeats 2000000 in
theorem body_short (rb sb n c k0 N : Nat) (ea ua : Addr) (q s o : Int) (zs : List Value) (w : World)
    (hr : w.heap[rb]? = some (.cells #[.slice (some ⟨sb, 0, none⟩) n c, .int .i64 k0] 43 (0, 0)))
    (hz : w.heap[sb]? = some (.cells zs.toArray 5 (0, 0))) (hone : ∀ u ∈ zs, u.oneCell' = true) (hzl : zs.length = c) (hk : k0 ≤ n) (hn : n ≤ c) (hc : c ≤ 2000) (hN : N + 16 ≤ 48000000)
    (hev : w.cell? ⟨1, 0, none⟩ = some (.iface 71 (.pointer (some ea)))) (huv : w.cell? ⟨2, 0, none⟩ = some (.iface 71 (.pointer (some ua)))) (hlow : 2 < rb) (hfull : n - k0 < N) :
    Calls Ybaf.prog 20 #[.iface 41 (.pointer (some ⟨rb, 0, none⟩)), .agg #[.int .i32 ((N : Int) + 16), .int .i32 q, .int .i32 s, .int .i32 o]] w fun e w' => e = .returned (.tuple #[.slice none 0 0, .iface 71 (.pointer (some ua))]) ∧
      w'.heap[rb]? = some (.cells #[.slice (some ⟨sb, 0, none⟩) n c, .int .i64 n] 43 (0, 0)) ∧ Kept [rb] w w' := by
  have hN' : (N : Int) + 16 ≤ 48000000 := by omega
  have hrs := lt_box hr
  have hzs := lt_box hz
  have HR := hide' (fun (W : World) (hs : w.heap.size + 1 < W.heap.size) (hW : Kept [] w W) (hl : W.heap[w.heap.size + 1]? = some (.cells #[.iface 41 (.pointer (some ⟨rb, 0, none⟩)), .int .i64 N] 78 (0, 0))) =>
    readAll_any (w.heap.size + 1) rb sb n c k0 N ea zs W hl ((hW.block rb hrs (by simp)).trans hr) ((hW.block sb hzs (by simp)).trans hz) hone hzl hk hn hc (by omega) ((hW.cell (by show 1 < w.heap.size; omega) (by simp)).trans hev) ⟨by omega, by omega⟩)
  have HU := hide' huv
  clear hr hz hone hev huv
  go_enter Ybaf.func20, Ybaf.ntmps20
  go_wp2_with fail
  refine (limitReader_any rb _ _).mono ?_
  rintro e W ⟨rfl, hW⟩
  have WS := hide' (show w.heap.size + 1 < W.heap.size by rw [hW]; simp)
  have WK := hide' (show Kept [] w W by rw [hW]; exact ((Kept.refl _ _).alloc _).alloc _)
  have WL := hide' (show W.heap[w.heap.size + 1]? = some (.cells #[.iface 41 (.pointer (some ⟨rb, 0, none⟩)), .int .i64 N] 78 (0, 0)) by
    rw [hW]
    have := heap_alloc_new (w.alloc (.cells #[.int .i32 ((N : Int) + 16), .int .i32 q, .int .i32 s, .int .i32 o] 45)) (.cells #[.iface 41 (.pointer (some ⟨rb, 0, none⟩)), .int .i64 (N : Int)] 78)
    simpa using this)
  have WB := hide' (fun (W2 : World) (hk : Kept [w.heap.size + 1, rb] W W2) => body_world hrs hW hk)
  clear hW
  go_wp2_with fail
  refine Calls.mono (HR.out W WS.out WK.out WL.out) ?_
  rintro e W2 ⟨g, l, cap, cur, rfl, h1, _, h3, h4, h5, h6, h7, h8⟩
  have hlN : (l : Int) < (N : Int) := by omega
  have e7 : k0 + l = n := by omega
  rw [e7] at h7
  have K2 := hide' (WB.out W2 h8)
  have R2 := hide' h7
  have u2 : W2.cell? ⟨2, 0, none⟩ = some (.iface 71 (.pointer (some ua))) := (K2.out.cell (by show 2 < w.heap.size; omega) (by simp; omega)).trans HU.out
  clear h1 h3 h4 h5 h6 h7 h8 HR WB WL WK WS e7 HU
  go_wp2_with fail
  go_quiet (fail)
  go_wp2_with fail
  go_ret2
  exact ⟨rfl, R2.out, K2.out.drewN' _⟩
end Go.Proofs.YbulkdswFmt
