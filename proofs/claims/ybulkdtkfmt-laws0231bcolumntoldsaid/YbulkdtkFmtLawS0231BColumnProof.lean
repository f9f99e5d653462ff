/-
  'Rows.LawS0231BColumnToldSaid': the told card of LawS0231BColumn, in the make of the guide's CheckTold.lean and HexbadSeven.lean.
-/
import Derived.Test.YbulkdtkFmtCards
import Derived.Test.YbulkdtkFmtLaw
import Derived.ProofKit
import Derived.OpenShut
import Derived.ChangeOld
import Derived.Below
import Derived.Deep.Strs
import Derived.Stop.JoinedTold
import Derived.SevenToldRow
namespace Go.Proofs.YbulkdtkFmt.lawS0231BColumn
open Go.ChangeShapes Go.WideShapes Go.ChangeAt Go.RowKit Go.Deep
open Go.Extern.Stop Go.Stop Go.Extern
set_option linter.unusedVariables false

theorem own : ownKnob Ybaf.prog.godebug = none := by kernel_rfl
theorem laidOut : laidOutB Ybaf.pinned.checked.prog = true := by kernel_rfl
theorem laidOut' : laidOutB Ybaf.prog = true := by kernel_rfl
theorem stops : Ybaf.pinned.checked.prog.stops = ["fmt.errorf"] := by kernel_rfl
theorem stopKnobs : Ybaf.pinned.checked.prog.stopKnobs = [] := by kernel_rfl
theorem quiet (os : Os) : Stop.quiet Ybaf.pinned.checked.prog os := by
  intro k hk
  rw [stopKnobs] at hk
  cases hk

set_option maxHeartbeats 1000000 in
set_option maxRecDepth 100000 in
theorem walk (F : Interp) (a0 a3 : Option Addr) (len0 cap0 len3 cap3 : Nat) (ss : Nat → ByteArray) (sel va : Int) (w : World) (hF : F.answers w.tape) (hsel : 0 ≤ sel)
    (ht : Toks w a0 len0) (hs : Strs w a3 len3 ss) :
    Calls Ybaf.prog 3 #[.slice a0 len0 cap0, .int .u64 sel, .int .i64 va, .slice a3 len3 cap3] w fun e w' => e = .returned (.bool true) ∧ Below w.heap.size w w' := by
  by_cases h0 : len0 ≤ 1024
  · by_cases h3 : len3 ≤ 1024
    · exact law_core F a0 a3 len0 cap0 len3 cap3 ss sel va w hF hsel ht hs h0 h3
    · have h0' : ¬ (1024 : Int) < (len0 : Int) := by omega
      have h3' : (1024 : Int) < (len3 : Int) := by omega
      clear ht hs hF h0 h3
      go_enter Ybaf.func3, Ybaf.ntmps3
      go_wp2
      go_ret
      exact ⟨rfl, Below.refl _ _⟩
  · have h0' : (1024 : Int) < (len0 : Int) := by omega
    clear ht hs hF h0
    go_enter Ybaf.func3, Ybaf.ntmps3
    go_wp2
    go_ret
    exact ⟨rfl, Below.refl _ _⟩

section
variable {H : Type} {enc : TypeId × Value → H} {w : World} {spare : Nat → Bool} {held : Bool}
theorem cells29 : Ybaf.prog.cellsOf 29 = 3 := by kernel_rfl
theorem cells9 : Ybaf.prog.cellsOf 9 = 1 := by kernel_rfl
theorem cells5 : Ybaf.prog.cellsOf 5 = 1 := by kernel_rfl
theorem cells3 : Ybaf.prog.cellsOf 3 = 1 := by kernel_rfl

theorem toks_of {fuel : Nat} {a : Option Addr} {len cap : Nat} {x : DataW H × List MemPlace} (h : DataW.trod enc Ybaf.prog w 0 spare held fuel 22 [.slice a len cap] = some x) : Toks w a len := by
  intro hpos
  rcases open_slice Ybaf.underlying22 h with ⟨hcs, _⟩ | ⟨ad, len', cap', m, n, D, Pl, hcs, hb, hl, hm, hmm, hx, hel⟩
  · cases hcs
    omega
  · cases hcs
    have hle : len ≤ m := by rw [hmm]; split <;> omega
    rw [cells29] at hel
    have each : ∀ i, i < len → ∃ (k : Int) (s : ByteArray) (p : Int), w.cell? (ad.add (i * 3)) = some (.int .u8 k) ∧ w.cell? (ad.add (i * 3 + 1)) = some (.string s) ∧ w.cell? (ad.add (i * 3 + 2)) = some (.int .i64 p) := by
      intro i hi
      obtain ⟨cs', h1, h2⟩ := hel i (by omega)
      obtain ⟨y0, y1, y2, n', _, hlen, t0, t1, t2⟩ := trod_struct3 Ybaf.underlying29 h2
      obtain ⟨_, hcl, hcc⟩ := World.cells?_some h1
      rw [cells29] at hlen
      match cs', hlen with
      | [c0, c1, c2], _ =>
        simp [cells5, cells9, cells3] at t0 t1 t2
        obtain ⟨k, e0, _⟩ := DataW.trod_int Ybaf.underlying5 t0
        obtain ⟨s, e1, _⟩ := DataW.trod_string Ybaf.underlying9 t1
        obtain ⟨p, e2, _⟩ := DataW.trod_int Ybaf.underlying3 t2
        cases e0; cases e1; cases e2
        refine ⟨k, s, p, ?_, ?_, ?_⟩
        · have := hcc 0 (by omega)
          simpa [add_add] using this
        · have := hcc 1 (by omega)
          simpa [add_add] using this
        · have := hcc 2 (by omega)
          simpa [add_add] using this
    obtain ⟨b, off, spot⟩ := ad
    have hspot : spot = none := by
      obtain ⟨k, s, p, h0, _⟩ := each 0 hpos
      simpa [Addr.add] using World.cell?_spot h0
    subst hspot
    refine ⟨b, off, rfl, ?_, fun i hi => ?_⟩
    · obtain ⟨k, s, p, h0, _⟩ := each 0 hpos
      exact World.block_lt_of_cell? w _ h0
    · obtain ⟨k, s, p, h0, h1, h2⟩ := each i hi
      rw [add_plain] at h0 h1 h2
      exact ⟨k, s, p, h0, by rw [Nat.add_assoc]; exact h1, by rw [Nat.add_assoc]; exact h2⟩

theorem strs_of {fuel : Nat} {a : Option Addr} {len cap : Nat} {x : DataW H × List MemPlace} (h : DataW.trod enc Ybaf.prog w 0 spare held fuel 24 [.slice a len cap] = some x) : ∃ ss, Strs w a len ss := by
  rcases open_strs Ybaf.underlying24 Ybaf.underlying9 cells9 h with ⟨hcs, _⟩ | ⟨ad, len', cap', m, Sx, hcs, hb, hl, hm, hmm, hx, hel⟩
  · cases hcs
    exact ⟨fun _ => ⟨#[]⟩, fun hp => by omega⟩
  · cases hcs
    have hle : len ≤ m := by rw [hmm]; split <;> omega
    refine ⟨Sx, fun hpos => ?_⟩
    obtain ⟨b, off, spot⟩ := ad
    have hspot : spot = none := by simpa [Addr.add] using World.cell?_spot (hel 0 (by omega)).1
    subst hspot
    refine ⟨b, off, rfl, World.block_lt_of_cell? w _ (hel 0 (by omega)).1, fun i hi => ?_⟩
    rw [← add_plain]
    exact (hel i (by omega)).1
end

set_option maxRecDepth 100000 in
theorem lifted (os : Os) (started : os.Started) (H : Type) (enc : TypeId × Value → H) :
    ReturnsInTold none {} Ybaf.checked os 3 .any Input.okWide ((OpenSpec.ofChange Rows.lawS0231BColumnSpec).preRow enc Ybaf.prog Ybaf.f3 Rows.lawS0231BColumnRow.domain false []) (fun F => ((OpenSpec.ofChange Rows.lawS0231BColumnSpec).at F).post enc Ybaf.prog Ybaf.f3 false true false false) (aloneAtReturn Ybaf.prog) nothingAlways := by
  refine returnsInTold_of_row (C := Ybaf.checked) (s := OpenSpec.ofChange Rows.lawS0231BColumnSpec) (by kernel_rfl) own started (by kernel_rfl) Ybaf.func3
    (OpenSpec.witness_stopped (enc := enc) (C := Ybaf.checked) false ⟨#[], #[.slice none 0 0, .int .u64 0, .int .i64 0, .slice none 0 0], []⟩ 8 (by kernel_rfl) (by kernel_rfl) (by kernel_rfl) (by kernel_rfl)) ?_
  intro F W base args ds gs before _ hF hval0 hW _ _ hsz _ _
  have hval : ∀ (j : Nat) t v, Ybaf.f3.params[j]? = some t → args[j]? = some v → Value.okWide Ybaf.prog W .any base t v := hval0
  have hW' := hW
  obtain ⟨p, q, hA0, hV, rfl, hfz, hnd⟩ := hW
  have hA : DataW.TrodAll enc Ybaf.prog W 0 (fun _ => true) true Ybaf.f3.params.toList args.toList ds p := hA0
  rw [Ybaf.params3] at hA hval
  obtain ⟨v0, vs0, d0, ds0, p0, q0, hargs, rfl, rfl, h0, r0⟩ := trodAll_cons hA
  obtain ⟨v1, vs1, d1, ds1, p1, q1, rfl, rfl, rfl, h1, r1⟩ := trodAll_cons r0
  obtain ⟨v2, vs2, d2, ds2, p2, q2, rfl, rfl, rfl, h2, r2⟩ := trodAll_cons r1
  obtain ⟨v3, vs3, d3, ds3, p3, q3, rfl, rfl, rfl, h3, r3⟩ := trodAll_cons r2
  obtain ⟨rfl, rfl, rfl⟩ := trodAll_nil r3
  obtain rfl : args = #[v0, v1, v2, v3] := by cases args; simp_all
  obtain ⟨rfl, rfl⟩ := trodVars_none hV
  obtain ⟨a0, len0, cap0, rfl⟩ := okWide_slice Ybaf.underlying22 (hval 0 22 v0 rfl rfl)
  obtain ⟨a3, len3, cap3, rfl⟩ := okWide_slice Ybaf.underlying24 (hval 3 24 v3 rfl rfl)
  obtain ⟨a1, rfl, rfl, rfl, w1⟩ := open_int Ybaf.underlying23 (hval 1 23 v1 rfl rfl) h1
  obtain ⟨a2, rfl, rfl, rfl, w2⟩ := open_int Ybaf.underlying3 (hval 2 3 v2 rfl rfl) h2
  have k0 := h0
  have k3 := h3
  have lt0 : ∀ x ∈ p0, x.block < W.heap.size := by obtain ⟨m, hm⟩ := k0; exact DataW.trod_lt m _ _ _ hm
  have lt3 : ∀ x ∈ p3, x.block < W.heap.size := by obtain ⟨m, hm⟩ := k3; exact DataW.trod_lt m _ _ _ hm
  have ht : Toks W a0 len0 := by obtain ⟨m, hm⟩ := h0; exact toks_of hm
  obtain ⟨ss, hs⟩ : ∃ ss, Strs W a3 len3 ss := by obtain ⟨m, hm⟩ := h3; exact strs_of hm
  clear hA0 hval0
  refine (walk F.told a0 a3 len0 cap0 len3 cap3 ss a1 a2 W hF (bounds_u64 w1).1 ht hs).mono fun e W' ⟨he, bel⟩ => ?_
  subst he
  exact ⟨_, rfl, _, _, _, [], _, [], hW', trodAll_mk1 (shut_bool Ybaf.underlying4 _), (trodAll_cons_mk (Below.trod laidOut' (by kernel_rfl) (of_decide_eq_true (by kernel_rfl)) k0 bel lt0) (trodAll_cons_mk (shut_int Ybaf.underlying23 w1) (trodAll_cons_mk (shut_int Ybaf.underlying3 w2) (trodAll_cons_mk (Below.trod laidOut' (by kernel_rfl) (of_decide_eq_true (by kernel_rfl)) k3 bel lt3) trodAll_mk0)))), rfl, bel.frame _, fun h => by cases h⟩

theorem proved : Rows.LawS0231BColumnToldSaid :=
  Claim7.holds_of_told_any 3 Ybaf.f3 "fmt.errorf" [] [] _ _ _ (by kernel_rfl) rfl rfl rfl laidOut (by kernel_rfl) rfl ⟨rfl, rfl, rfl, rfl, rfl, rfl, rfl⟩ rfl rfl (by kernel_rfl) (by kernel_rfl) Ybaf.func3 (by kernel_rfl)
    (of_decide_eq_true (by kernel_rfl)) (of_decide_eq_true (by kernel_rfl)) stops.symm rfl stopKnobs.symm (by kernel_rfl)
    (by kernel_rfl) (by kernel_rfl) (by kernel_rfl) (by kernel_rfl) (by kernel_rfl) (by kernel_rfl) (by kernel_rfl) (by kernel_rfl) (by kernel_rfl) rfl (by kernel_rfl) rfl rfl
    rfl rfl
    rfl (by kernel_rfl) (by kernel_rfl) (by kernel_rfl) (by decide) (by kernel_rfl)
    (OpenClaim.moreEntering_of (by kernel_rfl) (by kernel_rfl) (by kernel_rfl) (by kernel_rfl) (by kernel_rfl) (by kernel_rfl) (by kernel_rfl) (by kernel_rfl) (by kernel_rfl) (by kernel_rfl))
    ⟨_, WideRow.started_initial, quiet _⟩
    (fun os started _ H enc _ => lifted os started H enc)
end Go.Proofs.YbulkdtkFmt.lawS0231BColumn
