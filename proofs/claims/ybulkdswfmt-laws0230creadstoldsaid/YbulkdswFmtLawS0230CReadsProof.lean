/-
  'Rows.LawS0230CReadsToldSaid': the told and tied card of LawS0230CReads.
-/
import Derived.Test.YbulkdswFmtCards
import Derived.Test.YbulkdswFmtTie
import Derived.Test.YbulkdswFmtLaw
import Derived.ProofKit
import Derived.OpenShut
import Derived.ChangeOld
import Derived.Below
import Derived.Lay
import Derived.LaidSub
import Derived.WalkSmall
import Derived.Stop.LaidErr
import Derived.Stop.JoinedTold
import Derived.SevenToldRow
import Derived.SevenTiedAt
import Derived.Deep.DeepWitnessRef
namespace Go.Proofs.YbulkdswFmt.lawS0230CReads
open Go.ChangeShapes Go.WideShapes Go.ChangeAt Go.RowKit
open Go.Extern.Stop Go.Stop Go.Extern

theorem own : ownKnob Ybaf.prog.godebug = none := by kernel_rfl
theorem laidOut : laidOutB Ybaf.pinned.checked.prog = true := by kernel_rfl
theorem laidOut' : laidOutB Ybaf.prog = true := by kernel_rfl
theorem stops : Ybaf.pinned.checked.prog.stops = ["fmt.Sprintf", "fmt.errorf"] := by kernel_rfl
theorem stopKnobs : Ybaf.pinned.checked.prog.stopKnobs = [] := by kernel_rfl
theorem quiet (os : Os) : Stop.quiet Ybaf.pinned.checked.prog os := by
  intro k hk
  rw [stopKnobs] at hk
  cases hk
theorem cells5 : Ybaf.prog.cellsOf 5 = 1 := by kernel_rfl

theorem gE : Ybaf.prog.globalNamed "io.EOF" = some 1 := by kernel_rfl
theorem gET : (Ybaf.prog.globals[1]?).map (·.type) = some 47 := by kernel_rfl
theorem gU : Ybaf.prog.globalNamed "io.ErrUnexpectedEOF" = some 2 := by kernel_rfl
theorem gUT : (Ybaf.prog.globals[2]?).map (·.type) = some 47 := by kernel_rfl
theorem star : "*" ++ "errors.errorString" = "*errors.errorString" := by decide
theorem row71 (u : TypeId) (h : Ybaf.prog.typeName? 3 u = some "*errors.errorString") : u = 71 :=
  typeName_ptr_named (nm := "errors.errorString") (by rw [star]; kernel_rfl) (by kernel_rfl) (by decide) u (by rw [star]; exact h)
theorem cells72 : Ybaf.prog.cellsOf 73 = 1 := by kernel_rfl
theorem cells9 : Ybaf.prog.cellsOf 9 = 1 := by kernel_rfl

/-- the argument of type []byte, nil or not -/
theorem opened {H : Type} {enc : TypeId × Value → H} {W : World} {a0 : Option Addr} {len cap : Nat} {d0 : DataW H} {p : List MemPlace}
    (h0 : DataW.Trod enc Ybaf.prog W 0 (fun _ => true) true 22 (.slice a0 len cap) d0 p) :
    ∃ zs : List Int, zs.length = len ∧ (a0 = none → len = 0 ∧ cap = 0) ∧ ∀ ad, a0 = some ad → ∀ (j : Nat) (u : Value), (zs.map (Value.int .u8))[j]? = some u → W.cell? (ad.add j) = some u := by
  obtain ⟨fuel, hf⟩ := h0
  rcases open_ints Ybaf.underlying22 Ybaf.underlying5 cells5 hf with ⟨hcs, hx⟩ | ⟨a, len', cap', zs, hcs, _, hl, hm, hz, hx, hcell, hwz⟩
  · simp [Value.cells] at hcs
    obtain ⟨rfl, rfl, rfl⟩ := hcs
    exact ⟨[], rfl, fun _ => ⟨rfl, rfl⟩, fun ad h => by cases h⟩
  · simp [Value.cells] at hcs
    obtain ⟨rfl, rfl, rfl⟩ := hcs
    simp only [if_true] at hz
    refine ⟨zs.take len, by simp; omega, (fun h => by cases h), ?_⟩
    intro ad had j u hu
    cases had
    have hj : j < len := by
      have := (List.getElem?_eq_some_iff.1 hu).1
      simp at this
      omega
    rw [hcell j (by omega)]
    rw [← hu]
    have hjz : j < zs.length := by omega
    simp [hj, List.getElem?_eq_getElem hjz]

theorem i32_bounds {x : Int} (h : (Lit.int .i32 x).wf = true) : -2147483648 ≤ x ∧ x < 2147483648 := by
  simp [Lit.wf, IntKind.min, IntKind.max, IntKind.signed, IntKind.bits] at h
  omega
theorem u8_bounds {x : Int} (h : (Lit.int .u8 x).wf = true) : 0 ≤ x ∧ x < 256 := by
  simp [Lit.wf, IntKind.min, IntKind.max, IntKind.signed, IntKind.bits] at h
  omega
theorem u16_bounds {x : Int} (h : (Lit.int .u16 x).wf = true) : 0 ≤ x ∧ x < 65536 := by
  simp [Lit.wf, IntKind.min, IntKind.max, IntKind.signed, IntKind.bits] at h
  omega

theorem met (os : Os) (args : Array Value) : laidMet Ybaf.prog Rows.lawS0230CReadsRow.laid ((World.laidAll Ybaf.prog os Rows.lawS0230CReadsRow.laid).forCall (fun _ _ => 0) ⟨#[], args, []⟩).memory :=
  laidMet_laidAll _ (by kernel_rfl) (by kernel_rfl)

theorem low {w w' : World} (h : Kept [] w w') : Below w.heap.size w w' := Kept.below (Below.refl _ _) h (by simp) (Nat.le_refl _)

set_option maxRecDepth 100000 in
set_option maxHeartbeats 1600000 in
theorem lifted (os : Os) (started : os.Started) (H : Type) (enc : TypeId × Value → H) :
    ReturnsInTold none {} Ybaf.checked os 5 .any Input.okWide ((OpenSpec.ofChange Rows.lawS0230CReadsSpec).preRow enc Ybaf.prog Ybaf.f5 Rows.lawS0230CReadsRow.domain false Rows.lawS0230CReadsRow.laid) (fun F => ((OpenSpec.ofChange Rows.lawS0230CReadsSpec).at F).post enc Ybaf.prog Ybaf.f5 false true false false) (aloneAtReturn Ybaf.prog) nothingAlways := by
  refine returnsInTold_of_row (C := Ybaf.checked) (s := OpenSpec.ofChange Rows.lawS0230CReadsSpec) (by kernel_rfl) own started (by kernel_rfl) Ybaf.func5
    (OpenSpec.witness_stopped_atRef (enc := enc) (C := Ybaf.checked) false (World.laidAll Ybaf.prog os Rows.lawS0230CReadsRow.laid) #[.int .i32 0, .int .u8 0, .int .i32 0, .int .i32 0, .int .i32 0, .int .i32 0, .int .i32 0, .bool false, .bool false, .slice none 0 0, .int .u16 0] (World.laidAll_os _ _ _) (by kernel_rfl) (by kernel_rfl) (by kernel_rfl)
      (OpenSpec.preRow_of_B rfl 8 (by kernel_rfl) (by kernel_rfl) (met os _))) ?_
  intro F W base args ds gs before _ hF hval0 hW _ _ hsz hL _
  have hval : ∀ (j : Nat) t v, Ybaf.f5.params[j]? = some t → args[j]? = some v → Value.okWide Ybaf.prog W .any base t v := hval0
  have hW' := hW
  obtain ⟨p, q, hA0, hV, rfl, hfz, hnd⟩ := hW
  have hA : DataW.TrodAll enc Ybaf.prog W 0 (fun _ => true) true Ybaf.f5.params.toList args.toList ds p := hA0
  rw [Ybaf.params5] at hA hval
  obtain ⟨v0, vs0, d0, ds0, p0, q0, hargs, rfl, rfl, h0, r0⟩ := trodAll_cons hA
  obtain ⟨v1, vs1, d1, ds1, p1, q1, rfl, rfl, rfl, h1, r1⟩ := trodAll_cons r0
  obtain ⟨v2, vs2, d2, ds2, p2, q2, rfl, rfl, rfl, h2, r2⟩ := trodAll_cons r1
  obtain ⟨v3, vs3, d3, ds3, p3, q3, rfl, rfl, rfl, h3, r3⟩ := trodAll_cons r2
  obtain ⟨v4, vs4, d4, ds4, p4, q4, rfl, rfl, rfl, h4, r4⟩ := trodAll_cons r3
  obtain ⟨v5, vs5, d5, ds5, p5, q5, rfl, rfl, rfl, h5, r5⟩ := trodAll_cons r4
  obtain ⟨v6, vs6, d6, ds6, p6, q6, rfl, rfl, rfl, h6, r6⟩ := trodAll_cons r5
  obtain ⟨v7, vs7, d7, ds7, p7, q7, rfl, rfl, rfl, h7, r7⟩ := trodAll_cons r6
  obtain ⟨v8, vs8, d8, ds8, p8, q8, rfl, rfl, rfl, h8, r8⟩ := trodAll_cons r7
  obtain ⟨v9, vs9, d9, ds9, p9, q9, rfl, rfl, rfl, h9, r9⟩ := trodAll_cons r8
  obtain ⟨v10, vs10, d10, ds10, p10, q10, rfl, rfl, rfl, h10, r10⟩ := trodAll_cons r9
  obtain ⟨rfl, rfl, rfl⟩ := trodAll_nil r10
  obtain rfl : args = #[v0, v1, v2, v3, v4, v5, v6, v7, v8, v9, v10] := by cases args; simp_all
  obtain ⟨rfl, rfl⟩ := trodVars_none hV
  obtain ⟨a9, len9, cap9, rfl⟩ := okWide_slice Ybaf.underlying22 (hval 9 22 v9 rfl rfl)
  obtain ⟨a0, rfl, rfl, rfl, w0⟩ := open_int Ybaf.underlying21 (hval 0 21 v0 rfl rfl) h0
  obtain ⟨a1, rfl, rfl, rfl, w1⟩ := open_int Ybaf.underlying5 (hval 1 5 v1 rfl rfl) h1
  obtain ⟨a2, rfl, rfl, rfl, w2⟩ := open_int Ybaf.underlying21 (hval 2 21 v2 rfl rfl) h2
  obtain ⟨a3, rfl, rfl, rfl, w3⟩ := open_int Ybaf.underlying21 (hval 3 21 v3 rfl rfl) h3
  obtain ⟨a4, rfl, rfl, rfl, w4⟩ := open_int Ybaf.underlying21 (hval 4 21 v4 rfl rfl) h4
  obtain ⟨a5, rfl, rfl, rfl, w5⟩ := open_int Ybaf.underlying21 (hval 5 21 v5 rfl rfl) h5
  obtain ⟨a6, rfl, rfl, rfl, w6⟩ := open_int Ybaf.underlying21 (hval 6 21 v6 rfl rfl) h6
  obtain ⟨a7, rfl, rfl, rfl⟩ := open_bool Ybaf.underlying4 (hval 7 4 v7 rfl rfl) h7
  obtain ⟨a8, rfl, rfl, rfl⟩ := open_bool Ybaf.underlying4 (hval 8 4 v8 rfl rfl) h8
  obtain ⟨a10, rfl, rfl, rfl, w10⟩ := open_int Ybaf.underlying37 (hval 10 37 v10 rfl rfl) h10
  have k9 := h9
  have lt9 : ∀ x ∈ p9, x.block < W.heap.size := by obtain ⟨m, hm⟩ := k9; exact DataW.trod_lt m _ _ _ hm
  obtain ⟨zs, hzl, hnone, hcell⟩ := opened h9
  have hLE : laidMet Ybaf.prog [("io.EOF", .iface "*errors.errorString" (.ptr (.agg [.lit (.string [69, 79, 70])])))] W := laidMet.filter (fun x => x.1 == "io.EOF") hL
  have hLU : laidMet Ybaf.prog [("io.ErrUnexpectedEOF", .iface "*errors.errorString" (.ptr (.agg [.lit (.string [117, 110, 101, 120, 112, 101, 99, 116, 101, 100, 32, 69, 79, 70])])))] W := laidMet.filter (fun x => x.1 == "io.ErrUnexpectedEOF") hL
  obtain ⟨ea, _, hv1, _, _, _⟩ := laid_sentinel hLE gE gET Ybaf.underlying47 row71 Ybaf.underlying71 Ybaf.underlying73 rfl rfl Ybaf.underlying9 cells72 cells9
  obtain ⟨ua, _, hv2, _, _, _⟩ := laid_sentinel hLU gU gUT Ybaf.underlying47 row71 Ybaf.underlying71 Ybaf.underlying73 rfl rfl Ybaf.underlying9 cells72 cells9
  have hg1 : W.cell? ⟨1, 0, none⟩ = some (.iface 71 (.pointer (some ea))) := by simpa using World.var?_cell gE hv1 0
  have hg2 : W.cell? ⟨2, 0, none⟩ = some (.iface 71 (.pointer (some ua))) := by simpa using World.var?_cell gU hv2 0
  have h2lt : 2 < W.heap.size := World.block_lt_of_cell? W _ hg2
  clear hA0 hval0
  refine (law_any F.told a0 a1 a2 a3 a4 a5 a6 a10 a7 a8 ea ua a9 len9 cap9 zs W hF hg1 hg2 h2lt (i32_bounds w0).1 (i32_bounds w0).2 (i32_bounds w2).1 (i32_bounds w2).2 (i32_bounds w3).1 (i32_bounds w3).2 (i32_bounds w4).1 (i32_bounds w4).2 (u8_bounds w1).1 (u8_bounds w1).2 (u16_bounds w10).1 (u16_bounds w10).2 hzl hnone hcell).mono fun e W' ⟨he, hk⟩ => ?_
  subst he
  have bel := low hk
  exact ⟨_, rfl, _, _, _, [], _, [], hW', trodAll_mk1 (shut_bool Ybaf.underlying4 _), (trodAll_cons_mk (shut_int Ybaf.underlying21 w0) (trodAll_cons_mk (shut_int Ybaf.underlying5 w1) (trodAll_cons_mk (shut_int Ybaf.underlying21 w2) (trodAll_cons_mk (shut_int Ybaf.underlying21 w3) (trodAll_cons_mk (shut_int Ybaf.underlying21 w4) (trodAll_cons_mk (shut_int Ybaf.underlying21 w5) (trodAll_cons_mk (shut_int Ybaf.underlying21 w6) (trodAll_cons_mk (shut_bool Ybaf.underlying4 _) (trodAll_cons_mk (shut_bool Ybaf.underlying4 _) (trodAll_cons_mk (Below.trod laidOut' (by kernel_rfl) (of_decide_eq_true (by kernel_rfl)) k9 bel lt9) (trodAll_cons_mk (shut_int Ybaf.underlying37 w10) trodAll_mk0))))))))))), rfl, bel.frame _, fun h => by cases h⟩

theorem proved : Rows.LawS0230CReadsToldSaid :=
  Claim7.holds_of_told_tied_any_at .later 5 Ybaf.f5 "fmt.Sprintf" ["fmt.errorf"] [] _ _ _ _ _ (by kernel_rfl) rfl rfl rfl laidOut (by kernel_rfl) rfl ⟨rfl, rfl, rfl, rfl, rfl, rfl, rfl⟩ rfl rfl (by kernel_rfl) (by kernel_rfl) Ybaf.func5 (by kernel_rfl)
    (of_decide_eq_true (by kernel_rfl)) (of_decide_eq_true (by kernel_rfl)) stops.symm rfl stopKnobs.symm (by kernel_rfl)
    (by kernel_rfl) (by kernel_rfl) (by kernel_rfl) (by kernel_rfl) (by kernel_rfl) (by kernel_rfl) (by kernel_rfl) (by kernel_rfl) (by kernel_rfl) rfl (by kernel_rfl) rfl rfl
    rfl rfl
    rfl (by kernel_rfl) (by kernel_rfl) (by kernel_rfl) (by decide) (by kernel_rfl) lawS0230CReads_row_tie
    (OpenClaim.moreEntering_of (by kernel_rfl) (by kernel_rfl) (by kernel_rfl) (by kernel_rfl) (by kernel_rfl) (by kernel_rfl) (by kernel_rfl) (by kernel_rfl) (by kernel_rfl) (by kernel_rfl))
    ⟨_, WideRow.started_initial, quiet _⟩
    (fun os started _ H enc _ => lifted os started H enc)
end Go.Proofs.YbulkdswFmt.lawS0230CReads
