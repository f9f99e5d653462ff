/-
  'Rows.LawS0230BTakeSaid': the row, in the make of the guide's SlbqProofs.lean.
-/
import Derived.Test.YbulkdswRows
import Derived.Test.YbulkdswLaw
import Derived.ProofKit
import Derived.OpenShut
import Derived.ChangeOld
import Derived.Below
import Derived.Deep.Strs
namespace Go.Proofs.Ybulkdsw.lawS0230BTake
open Go.ChangeShapes Go.WideShapes Go.ChangeAt Go.RowKit Go.Deep

theorem own : ownKnob Yba.prog.godebug = none := by kernel_rfl
theorem laidOut : laidOutB Yba.prog = true := by kernel_rfl

section
variable {H : Type} {enc : TypeId × Value → H} {w : World} {spare : Nat → Bool} {held : Bool}
theorem cells26 : Yba.prog.cellsOf 26 = 5 := by kernel_rfl
theorem cells5 : Yba.prog.cellsOf 5 = 1 := by kernel_rfl
theorem cells4 : Yba.prog.cellsOf 4 = 1 := by kernel_rfl
theorem cells2 : Yba.prog.cellsOf 2 = 1 := by kernel_rfl
theorem cells23 : Yba.prog.cellsOf 23 = 1 := by kernel_rfl

theorem u8_nat {x : Int} (h : (Lit.int .u8 x).wf = true) : ∃ k : Nat, x = (k : Int) ∧ k < 256 := by
  simp [Lit.wf, IntKind.min, IntKind.max, IntKind.signed, IntKind.bits] at h
  exact ⟨x.toNat, by omega, by omega⟩

theorem list5 {α : Type} {l : List α} (h : l.length = 5) : ∃ a b c d e, l = [a, b, c, d, e] := by
  match l, h with
  | [a, b, c, d, e], _ => exact ⟨a, b, c, d, e, rfl⟩

theorem srvs_of {fuel : Nat} {a : Option Addr} {len cap : Nat} {x : DataW H × List MemPlace} (h : DataW.trod enc Yba.prog w 0 spare held fuel 22 [.slice a len cap] = some x) : Srvs w a len := by
  intro hpos
  rcases open_slice Yba.underlying22 h with ⟨hcs, _⟩ | ⟨ad, len', cap', m, n, D, Pl, hcs, hb, hl, hm, hmm, hx, hel⟩
  · cases hcs
    omega
  · cases hcs
    have hle : len ≤ m := by rw [hmm]; split <;> omega
    rw [cells26] at hel
    have each : ∀ i, i < len → ∃ (k : Nat) (hh : Bool) (p : Nat) (c g : Int), k < 256 ∧ p < 256 ∧ w.cell? (ad.add (i * 5)) = some (.int .u8 k) ∧ w.cell? (ad.add (i * 5 + 1)) = some (.bool hh) ∧ w.cell? (ad.add (i * 5 + 2)) = some (.int .u8 p) ∧ w.cell? (ad.add (i * 5 + 3)) = some (.int .i64 c) ∧ w.cell? (ad.add (i * 5 + 4)) = some (.int .u64 g) := by
      intro i hi
      obtain ⟨cs', h1, h2⟩ := hel i (by omega)
      obtain ⟨xs, n', _, _, hlen, hxl, hf⟩ := DataW.trod_struct Yba.underlying26 h2
      obtain ⟨_, hcl, hcc⟩ := World.cells?_some h1
      rw [cells26] at hlen
      obtain ⟨y0, y1, y2, y3, y4, rfl⟩ := list5 hxl
      have t0 := hf 0 _ rfl
      have t1 := hf 1 _ rfl
      have t2 := hf 2 _ rfl
      have t3 := hf 3 _ rfl
      have t4 := hf 4 _ rfl
      clear hf
      obtain ⟨c0, c1, c2, c3, c4, rfl⟩ := list5 hlen
      simp [cells5, cells4, cells2, cells23] at t0 t1 t2 t3 t4
      obtain ⟨k, e0, _, wk⟩ := DataW.trod_int Yba.underlying5 t0
      obtain ⟨hh, e1, _⟩ := DataW.trod_bool Yba.underlying4 t1
      obtain ⟨p, e2, _, wp⟩ := DataW.trod_int Yba.underlying5 t2
      obtain ⟨c, e3, _⟩ := DataW.trod_int Yba.underlying2 t3
      obtain ⟨g, e4, _⟩ := DataW.trod_int Yba.underlying23 t4
      cases e0; cases e1; cases e2; cases e3; cases e4
      obtain ⟨k', rfl, hk⟩ := u8_nat wk
      obtain ⟨p', rfl, hp⟩ := u8_nat wp
      refine ⟨k', hh, p', c, g, hk, hp, ?_, ?_, ?_, ?_, ?_⟩
      · have := hcc 0 (by omega)
        simpa [add_add] using this
      · have := hcc 1 (by omega)
        simpa [add_add] using this
      · have := hcc 2 (by omega)
        simpa [add_add] using this
      · have := hcc 3 (by omega)
        simpa [add_add] using this
      · have := hcc 4 (by omega)
        simpa [add_add] using this
    obtain ⟨b, off, spot⟩ := ad
    have hspot : spot = none := by
      obtain ⟨k, _, _, _, _, _, _, h0, _⟩ := each 0 hpos
      simpa [Addr.add] using World.cell?_spot h0
    subst hspot
    refine ⟨b, off, rfl, ?_, fun i hi => ?_⟩
    · obtain ⟨k, _, _, _, _, _, _, h0, _⟩ := each 0 hpos
      exact World.block_lt_of_cell? w _ h0
    · obtain ⟨k, hh, p, c, g, hk, hp, h0, h1, h2, h3, h4⟩ := each i hi
      rw [add_plain] at h0 h1 h2 h3 h4
      exact ⟨k, hh, p, c, g, hk, hp, h0, by rw [Nat.add_assoc]; exact h1, by rw [Nat.add_assoc]; exact h2, by rw [Nat.add_assoc]; exact h3, by rw [Nat.add_assoc]; exact h4⟩
end

theorem low {w w' : World} (h : Kept [] w w') : Below w.heap.size w w' := Kept.below (Below.refl _ _) h (by simp) (Nat.le_refl _)

set_option maxRecDepth 100000 in
set_option maxHeartbeats 1000000 in
theorem lifted (os : Os) (started : os.Started) (H : Type) (enc : TypeId × Value → H) :
    ReturnsInHanded {} Yba.checked os 3 .any (Rows.lawS0230BTakeSpec.pre6 enc Yba.prog Yba.f3 Rows.lawS0230BTakeRow.domain false) (Rows.lawS0230BTakeSpec.post enc Yba.prog Yba.f3 false true false false) := by
  refine returnsInHanded_of_change (C := Yba.checked) own started (by kernel_rfl) Yba.func3
    (ChangeSpec.witness6 (enc := enc) (C := Yba.checked) false ⟨#[], #[.slice none 0 0, .int .u8 0, .int .u8 0, .bool false, .int .u8 0, .int .i64 0, .int .u64 0, .bool false], []⟩ 8 (by kernel_rfl) (by kernel_rfl) (by kernel_rfl) (by kernel_rfl)) ?_
  intro W base args ds gs before hval0 hW _ _
  have hval : ∀ (j : Nat) t v, Yba.f3.params[j]? = some t → args[j]? = some v → Value.okWide Yba.prog W .any base t v := hval0
  have hW' := hW
  obtain ⟨p, q, hA0, hV, rfl, _, _⟩ := hW
  have hA : DataW.TrodAll enc Yba.prog W 0 (fun _ => true) true Yba.f3.params.toList args.toList ds p := hA0
  rw [Yba.params3] at hA hval
  obtain ⟨v0, vs0, d0, ds0, p0, q0, hargs, rfl, rfl, h0, r0⟩ := trodAll_cons hA
  obtain ⟨v1, vs1, d1, ds1, p1, q1, rfl, rfl, rfl, h1, r1⟩ := trodAll_cons r0
  obtain ⟨v2, vs2, d2, ds2, p2, q2, rfl, rfl, rfl, h2, r2⟩ := trodAll_cons r1
  obtain ⟨v3, vs3, d3, ds3, p3, q3, rfl, rfl, rfl, h3, r3⟩ := trodAll_cons r2
  obtain ⟨v4, vs4, d4, ds4, p4, q4, rfl, rfl, rfl, h4, r4⟩ := trodAll_cons r3
  obtain ⟨v5, vs5, d5, ds5, p5, q5, rfl, rfl, rfl, h5, r5⟩ := trodAll_cons r4
  obtain ⟨v6, vs6, d6, ds6, p6, q6, rfl, rfl, rfl, h6, r6⟩ := trodAll_cons r5
  obtain ⟨v7, vs7, d7, ds7, p7, q7, rfl, rfl, rfl, h7, r7⟩ := trodAll_cons r6
  obtain ⟨rfl, rfl, rfl⟩ := trodAll_nil r7
  obtain rfl : args = #[v0, v1, v2, v3, v4, v5, v6, v7] := by cases args; simp_all
  obtain ⟨rfl, rfl⟩ := trodVars_none hV
  obtain ⟨a0, len0, cap0, rfl⟩ := okWide_slice Yba.underlying22 (hval 0 22 v0 rfl rfl)
  obtain ⟨a1, rfl, rfl, rfl, w1⟩ := open_int Yba.underlying5 (hval 1 5 v1 rfl rfl) h1
  obtain ⟨a2, rfl, rfl, rfl, w2⟩ := open_int Yba.underlying5 (hval 2 5 v2 rfl rfl) h2
  obtain ⟨a3, rfl, rfl, rfl⟩ := open_bool Yba.underlying4 (hval 3 4 v3 rfl rfl) h3
  obtain ⟨a4, rfl, rfl, rfl, w4⟩ := open_int Yba.underlying5 (hval 4 5 v4 rfl rfl) h4
  obtain ⟨a5, rfl, rfl, rfl, w5⟩ := open_int Yba.underlying2 (hval 5 2 v5 rfl rfl) h5
  obtain ⟨a6, rfl, rfl, rfl, w6⟩ := open_int Yba.underlying23 (hval 6 23 v6 rfl rfl) h6
  obtain ⟨a7, rfl, rfl, rfl⟩ := open_bool Yba.underlying4 (hval 7 4 v7 rfl rfl) h7
  have k0 := h0
  have lt0 : ∀ x ∈ p0, x.block < W.heap.size := by obtain ⟨m, hm⟩ := k0; exact DataW.trod_lt m _ _ _ hm
  have hs : Srvs W a0 len0 := by obtain ⟨m, hm⟩ := h0; exact srvs_of hm
  obtain ⟨n1, e1, b1⟩ := u8_nat w1
  obtain ⟨n2, e2, b2⟩ := u8_nat w2
  obtain ⟨n4, e4, b4⟩ := u8_nat w4
  subst e1
  subst e2
  subst e4
  clear hA0 hval0
  refine (law_any a0 len0 cap0 n1 n2 n4 a3 a7 a5 a6 W hs b1 b2 b4).mono fun e W' ⟨he, hk⟩ => ?_
  subst he
  have bel := low hk
  exact ⟨_, rfl, _, _, _, [], _, [], hW', trodAll_mk1 (shut_bool Yba.underlying4 _), (trodAll_cons_mk (Below.trod laidOut (by kernel_rfl) (of_decide_eq_true (by kernel_rfl)) k0 bel lt0) (trodAll_cons_mk (shut_int Yba.underlying5 w1) (trodAll_cons_mk (shut_int Yba.underlying5 w2) (trodAll_cons_mk (shut_bool Yba.underlying4 _) (trodAll_cons_mk (shut_int Yba.underlying5 w4) (trodAll_cons_mk (shut_int Yba.underlying2 w5) (trodAll_cons_mk (shut_int Yba.underlying23 w6) (trodAll_cons_mk (shut_bool Yba.underlying4 _) trodAll_mk0)))))))), rfl, bel.frame _, fun h => by cases h⟩

theorem proved : Rows.LawS0230BTakeSaid :=
  OpenClaim.holds_of_wide 3 Yba.f3 rfl rfl rfl rfl rfl rfl rfl ⟨rfl, rfl, rfl, rfl, rfl⟩ rfl rfl rfl rfl rfl (by kernel_rfl) Yba.func3 (by kernel_rfl)
    (of_decide_eq_true (by kernel_rfl)) (by unfold Func.isWrapper; first | (rw [if_pos (by decide +kernel)]; kernel_rfl) | (rw [if_neg (by decide +kernel)]; exact ⟨rfl, rfl⟩))
    (fun os started H enc _ => lifted os started H enc)
end Go.Proofs.Ybulkdsw.lawS0230BTake
