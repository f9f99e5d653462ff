/-
  'Rows.LawS0236CRenewAndReadSaid': the row, in the make of the guide's SlbqProofs.lean.
-/
import Derived.Test.YbulkdwcRows
import Derived.Test.YbulkdwcCLaw
import Derived.ProofKit
import Derived.OpenShut
import Derived.ShutString
import Derived.ChangeOld
import Derived.Below
import Derived.Deep.Strs
namespace Go.Proofs.Ybulkdwc.lawS0236CRenewAndRead
open Go.ChangeShapes Go.WideShapes Go.ChangeAt Go.RowKit Go.Deep

theorem own : ownKnob Yba.prog.godebug = none := by kernel_rfl
theorem laidOut : laidOutB Yba.prog = true := by kernel_rfl

section
variable {H : Type} {enc : TypeId × Value → H} {w : World} {spare : Nat → Bool} {held : Bool}
theorem cells75 : Yba.prog.cellsOf 75 = 5 := by kernel_rfl
theorem cells9 : Yba.prog.cellsOf 9 = 1 := by kernel_rfl
theorem cells4 : Yba.prog.cellsOf 4 = 1 := by kernel_rfl
theorem cells2 : Yba.prog.cellsOf 2 = 1 := by kernel_rfl
theorem cells50 : Yba.prog.cellsOf 50 = 1 := by kernel_rfl

theorem trod_flt {fuel : Nat} {t : TypeId} {k : FloatKind} {cs : List Value} {x : DataW H × List MemPlace} (ht : Yba.prog.underlying t = some (.float k)) (h : DataW.trod enc Yba.prog w 0 spare held fuel t cs = some x) : ∃ b, cs = [.float k b] := by
  cases fuel with
  | zero => simp [DataW.trod] at h
  | succ n =>
    simp only [DataW.trod, ht] at h
    split at h <;> simp_all

theorem list5 {α : Type} {l : List α} (h : l.length = 5) : ∃ a b c d e, l = [a, b, c, d, e] := by
  match l, h with
  | [a, b, c, d, e], _ => exact ⟨a, b, c, d, e, rfl⟩

theorem bs_of {fuel : Nat} {a : Option Addr} {len cap : Nat} {x : DataW H × List MemPlace} (h : DataW.trod enc Yba.prog w 0 spare held fuel 42 [.slice a len cap] = some x) : ∃ ad gone rep la wt, BsAt w a len ad gone rep la wt := by
  by_cases hpos : 0 < len
  · rcases open_slice Yba.underlying42 h with ⟨hcs, _⟩ | ⟨ad, len', cap', m, n, D, Pl, hcs, hb, hl, hm, hmm, hx, hel⟩
    · cases hcs
      omega
    · cases hcs
      have hle : len ≤ m := by rw [hmm]; split <;> omega
      rw [cells75] at hel
      have each : ∀ i, i < len → ∃ (s : ByteArray) (g r : Bool) (l : Int) (x : Nat), w.cell? (ad.add (i * 5)) = some (.string s) ∧ w.cell? (ad.add (i * 5 + 1)) = some (.bool g) ∧ w.cell? (ad.add (i * 5 + 2)) = some (.bool r) ∧ w.cell? (ad.add (i * 5 + 3)) = some (.int .i64 l) ∧ w.cell? (ad.add (i * 5 + 4)) = some (.float .f64 x) := by
        intro i hi
        obtain ⟨cs', h1, h2⟩ := hel i (by omega)
        obtain ⟨xs, n', _, _, hlen, hxl, hf⟩ := DataW.trod_struct Yba.underlying75 h2
        obtain ⟨_, hcl, hcc⟩ := World.cells?_some h1
        rw [cells75] at hlen
        obtain ⟨y0, y1, y2, y3, y4, rfl⟩ := list5 hxl
        have t0 := hf 0 _ rfl
        have t1 := hf 1 _ rfl
        have t2 := hf 2 _ rfl
        have t3 := hf 3 _ rfl
        have t4 := hf 4 _ rfl
        clear hf
        obtain ⟨c0, c1, c2, c3, c4, rfl⟩ := list5 hlen
        simp [cells9, cells4, cells2, cells50] at t0 t1 t2 t3 t4
        obtain ⟨s, e0, _⟩ := DataW.trod_string Yba.underlying9 t0
        obtain ⟨g, e1, _⟩ := DataW.trod_bool Yba.underlying4 t1
        obtain ⟨r, e2, _⟩ := DataW.trod_bool Yba.underlying4 t2
        obtain ⟨l, e3, _⟩ := DataW.trod_int Yba.underlying2 t3
        obtain ⟨f, e4⟩ := trod_flt Yba.underlying50 t4
        cases e0; cases e1; cases e2; cases e3; cases e4
        refine ⟨s, g, r, l, f, ?_, ?_, ?_, ?_, ?_⟩
        · have := hcc 0 (by omega)
          simpa [add_add] using this
        · have := hcc 1 (by omega)
          simpa [add_add] using this
        · have := hcc 2 (by omega)
          simpa [add_add] using this
        · have := hcc 3 (by omega)
          simpa [add_add] using this
        · have := hcc 4 (by omega)
          simpa [add_add] using this
      obtain ⟨b, off, spot⟩ := ad
      have hspot : spot = none := by
        obtain ⟨_, _, _, _, _, h0, _⟩ := each 0 hpos
        simpa [Addr.add] using World.cell?_spot h0
      subst hspot
      have hlt : b < w.heap.size := by
        obtain ⟨_, _, _, _, _, h0, _⟩ := each 0 hpos
        exact World.block_lt_of_cell? w _ h0
      have pick : ∀ i, ∃ t : ByteArray × Bool × Bool × Int × Nat, i < len → w.cell? ⟨b, off + i * 5, none⟩ = some (.string t.1) ∧ w.cell? ⟨b, off + i * 5 + 1, none⟩ = some (.bool t.2.1) ∧ w.cell? ⟨b, off + i * 5 + 2, none⟩ = some (.bool t.2.2.1) ∧
          w.cell? ⟨b, off + i * 5 + 3, none⟩ = some (.int .i64 t.2.2.2.1) ∧ w.cell? ⟨b, off + i * 5 + 4, none⟩ = some (.float .f64 t.2.2.2.2) := by
        intro i
        by_cases hi : i < len
        · obtain ⟨s, g, r, l, f, h0, h1, h2, h3, h4⟩ := each i hi
          rw [add_plain] at h0 h1 h2 h3 h4
          exact ⟨(s, g, r, l, f), fun _ => ⟨h0, by rw [Nat.add_assoc]; exact h1, by rw [Nat.add_assoc]; exact h2, by rw [Nat.add_assoc]; exact h3, by rw [Nat.add_assoc]; exact h4⟩⟩
        · exact ⟨(ByteArray.empty, false, false, 0, 0), fun h => absurd h hi⟩
      obtain ⟨f, hf⟩ := Classical.axiomOfChoice pick
      exact ⟨fun i => (f i).1, fun i => (f i).2.1, fun i => (f i).2.2.1, fun i => (f i).2.2.2.1, fun i => (f i).2.2.2.2, fun _ => ⟨b, off, rfl, hlt, hf⟩⟩
  · exact ⟨fun _ => ByteArray.empty, fun _ => false, fun _ => false, fun _ => 0, fun _ => 0, fun h => absurd h hpos⟩

theorem ans_of {fuel : Nat} {a : Option Addr} {len cap : Nat} {x : DataW H × List MemPlace} (h : DataW.trod enc Yba.prog w 0 spare held fuel 43 [.slice a len cap] = some x) : ∃ xs, AnsAt w.heap.size w a len xs := by
  by_cases hpos : 0 < len
  · rcases open_slice Yba.underlying43 h with ⟨hcs, _⟩ | ⟨ad, len', cap', m, n, D, Pl, hcs, hb, hl, hm, hmm, hx, hel⟩
    · cases hcs
      omega
    · cases hcs
      have hle : len ≤ m := by rw [hmm]; split <;> omega
      rw [cells50] at hel
      have each : ∀ i, i < len → ∃ x : Nat, w.cell? (ad.add i) = some (.float .f64 x) := by
        intro i hi
        obtain ⟨cs', h1, h2⟩ := hel i (by omega)
        obtain ⟨_, hcl, hcc⟩ := World.cells?_some h1
        obtain ⟨f, rfl⟩ := trod_flt Yba.underlying50 h2
        refine ⟨f, ?_⟩
        have := hcc 0 (by omega)
        simpa [add_add] using this
      obtain ⟨b, off, spot⟩ := ad
      have hspot : spot = none := by
        obtain ⟨_, h0⟩ := each 0 hpos
        simpa [Addr.add] using World.cell?_spot h0
      subst hspot
      have hlt : b < w.heap.size := by
        obtain ⟨_, h0⟩ := each 0 hpos
        exact World.block_lt_of_cell? w _ h0
      have pick : ∀ i, ∃ x : Nat, i < len → w.cell? ⟨b, off + i, none⟩ = some (.float .f64 x) := by
        intro i
        by_cases hi : i < len
        · obtain ⟨f, h0⟩ := each i hi
          rw [add_plain] at h0
          exact ⟨f, fun _ => h0⟩
        · exact ⟨0, fun h => absurd h hi⟩
      obtain ⟨f, hf⟩ := Classical.axiomOfChoice pick
      exact ⟨f, fun _ => ⟨b, off, rfl, hlt, hlt, hf⟩⟩
  · exact ⟨fun _ => 0, fun h => absurd h hpos⟩
end

theorem low {w w' : World} (h : Kept [] w w') : Below w.heap.size w w' := Kept.below (Below.refl _ _) h (by simp) (Nat.le_refl _)

set_option maxRecDepth 100000 in
set_option maxHeartbeats 1000000 in
theorem lifted (os : Os) (started : os.Started) (H : Type) (enc : TypeId × Value → H) :
    ReturnsInHanded {} Yba.checked os 5 .any (Rows.lawS0236CRenewAndReadSpec.pre6 enc Yba.prog Yba.f5 Rows.lawS0236CRenewAndReadRow.domain false) (Rows.lawS0236CRenewAndReadSpec.post enc Yba.prog Yba.f5 false true false false) := by
  refine returnsInHanded_of_change (C := Yba.checked) own started (by kernel_rfl) Yba.func5
    (ChangeSpec.witness6 (enc := enc) (C := Yba.checked) false ⟨#[], #[.slice none 0 0, .int .i64 0, .int .i64 0, .slice none 0 0, .bool false], []⟩ 8 (by kernel_rfl) (by kernel_rfl) (by kernel_rfl) (by kernel_rfl)) ?_
  intro W base args ds gs before hval0 hW _ _
  have hval : ∀ (j : Nat) t v, Yba.f5.params[j]? = some t → args[j]? = some v → Value.okWide Yba.prog W .any base t v := hval0
  have hW' := hW
  obtain ⟨p, q, hA0, hV, rfl, _, _⟩ := hW
  have hA : DataW.TrodAll enc Yba.prog W 0 (fun _ => true) true Yba.f5.params.toList args.toList ds p := hA0
  rw [Yba.params5] at hA hval
  obtain ⟨v0, vs0, d0, ds0, p0, q0, hargs, rfl, rfl, h0, r0⟩ := trodAll_cons hA
  obtain ⟨v1, vs1, d1, ds1, p1, q1, rfl, rfl, rfl, h1, r1⟩ := trodAll_cons r0
  obtain ⟨v2, vs2, d2, ds2, p2, q2, rfl, rfl, rfl, h2, r2⟩ := trodAll_cons r1
  obtain ⟨v3, vs3, d3, ds3, p3, q3, rfl, rfl, rfl, h3, r3⟩ := trodAll_cons r2
  obtain ⟨v4, vs4, d4, ds4, p4, q4, rfl, rfl, rfl, h4, r4⟩ := trodAll_cons r3
  obtain ⟨rfl, rfl, rfl⟩ := trodAll_nil r4
  obtain rfl : args = #[v0, v1, v2, v3, v4] := by cases args; simp_all
  obtain ⟨rfl, rfl⟩ := trodVars_none hV
  obtain ⟨a0, len0, cap0, rfl⟩ := okWide_slice Yba.underlying42 (hval 0 42 v0 rfl rfl)
  obtain ⟨a1, rfl, rfl, rfl, w1⟩ := open_int Yba.underlying2 (hval 1 2 v1 rfl rfl) h1
  obtain ⟨a2, rfl, rfl, rfl, w2⟩ := open_int Yba.underlying2 (hval 2 2 v2 rfl rfl) h2
  obtain ⟨a3, len3, cap3, rfl⟩ := okWide_slice Yba.underlying43 (hval 3 43 v3 rfl rfl)
  obtain ⟨a4, rfl, rfl, rfl⟩ := open_bool Yba.underlying4 (hval 4 4 v4 rfl rfl) h4
  have k0 := h0
  have k3 := h3
  have lt0 : ∀ x ∈ p0, x.block < W.heap.size := by obtain ⟨m, hm⟩ := k0; exact DataW.trod_lt m _ _ _ hm
  have lt3 : ∀ x ∈ p3, x.block < W.heap.size := by obtain ⟨m, hm⟩ := k3; exact DataW.trod_lt m _ _ _ hm
  obtain ⟨ad, gone, rep, la, wt, hbs⟩ : ∃ ad gone rep la wt, BsAt W a0 len0 ad gone rep la wt := by obtain ⟨m, hm⟩ := h0; exact bs_of hm
  obtain ⟨xs, han⟩ : ∃ xs, AnsAt W.heap.size W a3 len3 xs := by obtain ⟨m, hm⟩ := h3; exact ans_of hm
  clear hA0 hval0
  refine (law_any a0 a3 len0 cap0 len3 cap3 a1 a2 a4 ad gone rep la wt xs W hbs han).mono fun e W' ⟨he, hk⟩ => ?_
  subst he
  have bel := low hk
  exact ⟨_, rfl, _, _, _, [], _, [], hW', trodAll_mk1 (shut_bool Yba.underlying4 _), (trodAll_cons_mk (Below.trod laidOut (by kernel_rfl) (of_decide_eq_true (by kernel_rfl)) k0 bel lt0) (trodAll_cons_mk (shut_int Yba.underlying2 w1) (trodAll_cons_mk (shut_int Yba.underlying2 w2) (trodAll_cons_mk (Below.trod laidOut (by kernel_rfl) (of_decide_eq_true (by kernel_rfl)) k3 bel lt3) (trodAll_cons_mk (shut_bool Yba.underlying4 _) trodAll_mk0))))), rfl, bel.frame _, fun h => by cases h⟩

theorem proved : Rows.LawS0236CRenewAndReadSaid :=
  OpenClaim.holds_of_wide 5 Yba.f5 rfl rfl rfl rfl rfl rfl rfl ⟨rfl, rfl, rfl, rfl, rfl⟩ rfl rfl rfl rfl rfl (by kernel_rfl) Yba.func5 (by kernel_rfl)
    (of_decide_eq_true (by kernel_rfl)) (by unfold Func.isWrapper; first | (rw [if_pos (by decide +kernel)]; kernel_rfl) | (rw [if_neg (by decide +kernel)]; exact ⟨rfl, rfl⟩))
    (fun os started H enc _ => lifted os started H enc)
end Go.Proofs.Ybulkdwc.lawS0236CRenewAndRead
