/-
  'Rows.LawS0236BExactSaid': the shell by program (proof-skeleton.mjs); the walk is ours.
-/
import Derived.Test.YbulkdwcRows
import Derived.Test.YbulkdwcRef
import Derived.WalkKit
import Derived.ProofKit
import Derived.OpenShut
import Derived.ShutString
namespace Go.Proofs.Ybulkdwc.lawS0236BExact
open Go.ChangeShapes Go.WideShapes Go.ChangeAt Go.RowKit
open Go.ChangeMaps (open_string shut_string)
set_option linter.unusedVariables false      -- a walk need not use every 'w<i>' (that an integer argument fits its kind)

theorem own : ownKnob Yba.prog.godebug = none := by kernel_rfl

/-- the zero value of a struct type, as the program's table has it -/
def zcells (P : Program) (t : TypeId) : Array Value := match (P.info? t).bind (·.zero) with | some (.agg cs) => cs | _ => #[]
theorem hz37 (w : World) : (zeroValue 37).run Yba.prog w = .ok (.agg (zcells Yba.prog 37)) w := by kernel_rfl
theorem sz37 : (zcells Yba.prog 37).size = 128 := by kernel_rfl

theorem compl (x : Nat) (h : x < 18446744073709551616) : ∃ y : Nat, bits BinOp.xor IntKind.u64 IntKind.u64.max (x : Int) = (y : Int) ∧ y < 18446744073709551616 := by
  have h1 := bits_xor_u64_nat 18446744073709551615 x (by omega) h
  refine ⟨18446744073709551615 ^^^ x, ?_, Nat.xor_lt_two_pow (n := 64) (by omega) (by omega)⟩
  rw [← h1]
  rfl
theorem grown_trans {a b c : World} (h : Grown a b) (k : Grown b c) : Grown a c :=
  ⟨World.keptBut_trans h.1 k.1, fun x => (k.2.1 x).trans (h.2.1 x), Nat.le_trans h.2.2 k.2.2⟩

/-! ### STEP 1: THE WALK: the Go text returns true. 'Grown w w'': the world has at most new blocks (Derived/RowKit3.lean). Part the cases AHEAD of 'go_enter' where a test parts the walk; take each callee by a contract of your own. -/
set_option maxRecDepth 100000 in
set_option maxHeartbeats 1000000 in
theorem walk (a0 : Int) (a1 : Int) (a2 : Int) (w0 : (Lit.int .u64 a0).wf = true) (w1 : (Lit.int .u64 a1).wf = true) (w2 : (Lit.int .u64 a2).wf = true) (w : World) :
    Calls Yba.prog 3 #[.int .u64 a0, .int .u64 a1, .int .u64 a2] w fun e w' => e = .returned (.bool true) ∧ Grown w w' := by
  obtain ⟨p, rfl⟩ := Int.eq_ofNat_of_zero_le (bounds_u64 w0).1
  obtain ⟨hi, rfl⟩ := Int.eq_ofNat_of_zero_le (bounds_u64 w1).1
  obtain ⟨lo, rfl⟩ := Int.eq_ofNat_of_zero_le (bounds_u64 w2).1
  have h3 : p < 18446744073709551616 := by have := (bounds_u64 w0).2; omega
  have h1 : hi < 18446744073709551616 := by have := (bounds_u64 w1).2; omega
  have h2 : lo < 18446744073709551616 := by have := (bounds_u64 w2).2; omega
  clear w0 w1 w2
  obtain ⟨Z, hZ, hZs⟩ : ∃ Z : Array Value, (∀ w, (zeroValue 37).run Yba.prog w = .ok (.agg Z) w) ∧ Z.size = 128 := ⟨_, hz37, sz37⟩
  go_enter Yba.func3, Yba.ntmps3
  go_wp2_with fail
  have hc : (w.alloc (.cells (Z.setIfInBounds 121 (.int .u64 (p : Int))) 37)).cell? ⟨w.heap.size, 121, none⟩ = some (.int .u64 (p : Int)) := by
    rw [World.cell?_alloc_at _ _ _ _ rfl]
    simp [hZs]
  have G1 : Grown w (w.alloc (.cells (Z.setIfInBounds 121 (.int .u64 (p : Int))) 37)) := (Grown.refl w).alloc _ _
  have L1 : w.heap.size < (w.alloc (.cells (Z.setIfInBounds 121 (.int .u64 (p : Int))) 37)).heap.size := by simp
  generalize w.alloc (.cells (Z.setIfInBounds 121 (.int .u64 (p : Int))) 37) = W1 at *
  generalize (Z.setIfInBounds 121 (.int .u64 (p : Int))) = C at *
  clear hZ hZs
  refine (position_any w.heap.size hi lo p h1 h2 h3 W1 hc).mono ?_
  rintro e w1 ⟨rfl, rfl⟩
  go_wp2_with fail
  refine (ref_any hi lo p h1 h2 h3 W1).mono ?_
  rintro e W2 ⟨rfl, G2, B2⟩
  have hc2 : W2.cell? ⟨w.heap.size, 121, none⟩ = some (.int .u64 (p : Int)) := (B2.cell (p := ⟨w.heap.size, 121, none⟩) L1).trans hc
  go_wp2_with fail
  obtain ⟨hj, ehj, bhj⟩ := compl hi h1
  obtain ⟨lj, elj, blj⟩ := compl lo h2
  have EH : Hid (bits BinOp.xor IntKind.u64 IntKind.u64.max (hi : Int) = (hj : Int)) := ehj
  have EL : Hid (bits BinOp.xor IntKind.u64 IntKind.u64.max (lo : Int) = (lj : Int)) := elj
  rw [ehj, elj]
  clear ehj elj
  refine (position_any w.heap.size hj lj p bhj blj h3 W2 hc2).mono ?_
  rintro e w1 ⟨rfl, rfl⟩
  go_wp2_with fail
  rw [EH.out, EL.out]
  refine (ref_any hj lj p bhj blj h3 W2).mono ?_
  rintro e W3 ⟨rfl, G3, B3⟩
  go_wp2
  go_ret
  exact ⟨by simp, grown_trans (grown_trans G1 G2) G3⟩

/-! ### THE ROW's STEP: WRITTEN OUT: LEAVE IT -/
set_option maxRecDepth 100000 in
theorem lifted (os : Os) (started : os.Started) (H : Type) (enc : TypeId × Value → H) :
    ReturnsInHanded {} Yba.checked os 3 .any (Rows.lawS0236BExactSpec.pre6 enc Yba.prog Yba.f3 Rows.lawS0236BExactRow.domain false) (Rows.lawS0236BExactSpec.post enc Yba.prog Yba.f3 false true false false) := by
  refine returnsInHanded_of_change (C := Yba.checked) own started (by kernel_rfl) Yba.func3
    (ChangeSpec.witness6 (enc := enc) (C := Yba.checked) false ⟨#[], #[.int .u64 0, .int .u64 0, .int .u64 0], []⟩ 8 (by kernel_rfl) (by kernel_rfl) (by kernel_rfl) (by kernel_rfl)) ?_
  intro W base args ds gs before hval0 hW hcnd _
  have hval : ∀ (j : Nat) t v, Yba.f3.params[j]? = some t → args[j]? = some v → Value.okWide Yba.prog W .any base t v := hval0
  have hW' := hW
  obtain ⟨p, q, hA0, hV, rfl, hfz, hnd⟩ := hW
  have hA : DataW.TrodAll enc Yba.prog W 0 (fun _ => true) true Yba.f3.params.toList args.toList ds p := hA0
  rw [Yba.params3] at hA hval
  obtain ⟨v0, vs0, d0, ds0, p0, q0, hargs, rfl, rfl, h0, r0⟩ := trodAll_cons hA
  obtain ⟨v1, vs1, d1, ds1, p1, q1, rfl, rfl, rfl, h1, r1⟩ := trodAll_cons r0
  obtain ⟨v2, vs2, d2, ds2, p2, q2, rfl, rfl, rfl, h2, r2⟩ := trodAll_cons r1
  obtain ⟨rfl, rfl, rfl⟩ := trodAll_nil r2
  obtain rfl : args = #[v0, v1, v2] := by cases args; simp_all
  obtain ⟨rfl, rfl⟩ := trodVars_none hV
  obtain ⟨a0, rfl, rfl, rfl, w0⟩ := open_int Yba.underlying22 (hval 0 22 v0 rfl rfl) h0
  obtain ⟨a1, rfl, rfl, rfl, w1⟩ := open_int Yba.underlying22 (hval 1 22 v1 rfl rfl) h1
  obtain ⟨a2, rfl, rfl, rfl, w2⟩ := open_int Yba.underlying22 (hval 2 22 v2 rfl rfl) h2
  clear hA0 hval0
  simp only [List.append_nil] at hW'
  refine (walk a0 a1 a2 w0 w1 w2 W).mono fun e W' ⟨he, hg⟩ => ?_
  subst he
  exact ⟨_, rfl, post_of_same (pa := []) (pv := []) hW' (fun _ _ _ => (trodAll_cons_mk (shut_bool Yba.underlying4 _) trodAll_mk0)) (fun sp _ => (trodAll_cons_mk (shut_int Yba.underlying22 w0) (trodAll_cons_mk (shut_int Yba.underlying22 w1) (trodAll_cons_mk (shut_int Yba.underlying22 w2) trodAll_mk0)))) (fun _ _ => rfl) rfl
    (hg.frame _) hg.2.1 (ok_one (by kernel_rfl) rfl (okWide_bool_mk Yba.underlying4 _))⟩

theorem over : Rows.lawS0236BExactRow.holds Yba.pinned (OpenSpec.ofChange Rows.lawS0236BExactSpec) :=
  OpenClaim.holds_of_wide 3 Yba.f3 rfl rfl rfl rfl rfl rfl rfl ⟨rfl, rfl, rfl, rfl, rfl⟩ rfl rfl rfl rfl rfl (by kernel_rfl) Yba.func3 (by kernel_rfl)
    (of_decide_eq_true (by kernel_rfl)) (by unfold Func.isWrapper; first | (rw [if_pos (by decide +kernel)]; kernel_rfl) | (rw [if_neg (by decide +kernel)]; exact ⟨rfl, rfl⟩))
    (fun os started H enc _ => lifted os started H enc)

/-- ████ THE STATEMENT ████ -/
theorem proved : Rows.LawS0236BExactSaid :=
  over
end Go.Proofs.Ybulkdwc.lawS0236BExact
