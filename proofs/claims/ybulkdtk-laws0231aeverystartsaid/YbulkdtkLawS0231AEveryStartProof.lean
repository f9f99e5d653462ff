/-
  'Rows.LawS0231AEveryStartSaid': the shell by program (proof-skeleton.mjs); the walk is ours.
-/
import Derived.Test.YbulkdtkRows
import Derived.Test.YbulkdtkWalks
import Derived.Laws.IdiomStrings
import Derived.Maps.AppendAt
import Derived.WalkKit
import Derived.ProofKit
import Derived.OpenShut
import Derived.ShutString
import Derived.ChangeOld
import Derived.Below
namespace Go.Proofs.Ybulkdtk.lawS0231AEveryStart
open Go.ChangeShapes Go.WideShapes Go.ChangeAt Go.RowKit
open Go.ChangeMaps (open_string shut_string)
set_option linter.unusedVariables false

theorem own : ownKnob Yba.prog.godebug = none := by kernel_rfl
theorem laidOut : laidOutB Yba.prog = true := by kernel_rfl

/-- WHAT THE WALK IS TOLD OF A SLICE OF INTEGERS THAT CAME IN: it is nil; or it leads to a row of 'cap' cells, the numbers 'zs' (the first 'len' are its elements, the rest its spare room), each fitting its kind. -/
def IsRow (k : IntKind) (w : World) (a : Option Addr) (len cap : Nat) (zs : List Int) : Prop :=
  (a = none ∧ len = 0 ∧ cap = 0 ∧ zs = []) ∨
  ∃ x, a = some x ∧ len ≤ cap ∧ cap ≤ maxLen ∧ zs.length = cap ∧ (∀ i, i < zs.length → w.cell? (x.add i) = some (.int k (zs.getD i 0))) ∧ ∀ n ∈ zs, (Lit.int k n).wf = true

/-- what the walk asks of the slice that came in -/
def Came0 (w : World) (a : Option Addr) (len : Nat) (zs : List Int) : Prop :=
  0 < len → ∃ b off, a = some ⟨b, off, none⟩ ∧ b < w.heap.size ∧ ∀ i, i < len → w.cell? ⟨b, off + i, none⟩ = some (.int .u8 (zs.getD i 0)) ∧ 0 ≤ zs.getD i 0 ∧ zs.getD i 0 ≤ 255
theorem lt_of_cell {w : World} {b o : Nat} {v : Value} (h : w.cell? ⟨b, o, none⟩ = some v) : b < w.heap.size := by
  rcases Nat.lt_or_ge b w.heap.size with c | c
  · exact c
  · simp [World.cell?, c] at h
theorem came0_of_row {w : World} {a : Option Addr} {len cap : Nat} {zs : List Int} (h : IsRow .u8 w a len cap zs) : Came0 w a len zs := by
  intro hpos
  rcases h with ⟨_, h, _⟩ | ⟨x, rfl, hl, hm, hz, hc, hw⟩
  · omega
  · obtain ⟨b, off, spot⟩ := x
    have hspot : spot = none := by simpa [Addr.add] using World.cell?_spot (hc 0 (by omega))
    subst hspot
    have hc' : ∀ i, i < len → w.cell? ⟨b, off + i, none⟩ = some (.int .u8 (zs.getD i 0)) := fun i hi => by
      rw [← add_plain]; exact hc i (by omega)
    refine ⟨b, off, rfl, lt_of_cell (hc' 0 hpos), fun i hi => ⟨hc' i hi, ?_⟩⟩
    have := range_u8 hw i
    simpa [List.getD] using this
theorem info5 : (Yba.prog.info? 5).map (fun i => (i.zero, i.size, i.bytes)) = some (some (.int .u8 0), 1, 1) := by kernel_rfl
def byteCells (l : List UInt8) : List Value := l.map fun b => .int .u8 (b.toNat : Int)

theorem own_snoc {w1 : World} {B k : Nat} {v : Value} {l : List UInt8} {x : UInt8} (h : w1.ownsRow B 5 1 v k (byteCells l ++ [.int .u8 (x.toNat : Int)])) :
    ∃ l' : List UInt8, l'.length = l.length + 1 ∧ w1.ownsRow B 5 1 v k (byteCells l') :=
  ⟨l ++ [x], by simp, by simpa [byteCells] using h⟩
theorem str_of {w1 : World} {B g k cap : Nat} {l : List UInt8} (h : w1.ownsRow B 5 1 (.slice (some ⟨g, 0, none⟩) k cap) k (byteCells l)) (hl : l.length = k) :
    ∃ s : ByteArray, s.size = k ∧ (convert 26 9 (.slice (some ⟨g, 0, none⟩) k cap)).run Yba.prog w1 = .ok (.string s) w1 := by
  subst hl
  refine ⟨⟨l.toArray⟩, by simp [ByteArray.size], run_convert_bytes_back w1 26 9 5 ⟨g, 0, none⟩ cap l Yba.underlying26 Yba.underlying5 Yba.underlying9 fun j hj => ?_⟩
  rw [add_plain, Nat.zero_add, h.cellAt j (by omega)]
  simp [byteCells, hj]

set_option maxHeartbeats 1000000 in
theorem core (a0 : Option Addr) (len cap : Nat) (zs : List Int) (w : World) (h : Came0 w a0 len zs) (hl : len ≤ 256) :
    Calls Yba.prog 4 #[.slice a0 len cap] w fun e w' => e = .returned (.bool true) ∧ Below w.heap.size w w' := by
  obtain ⟨i0, hi, hz0, hz1, hz2⟩ := info_parts info5
  go_enter Yba.func4, Yba.ntmps4
  go_wp2_with (at_make; refine wpList_make_own _ rfl _ _ 26 rfl w.heap.size 5 i0 (.int .u8 0) 1 Yba.underlying26 hi hz0 hz1 _ _ _ len rfl rfl (by omega) ?b2 ?b3 (Nat.le_refl _) ?_)
  case b2 => rw [hz2]; omega
  case b3 => unfold maxLen; omega
  intro w0 hown0 hgrow0
  go_wp2
  go_loopw [3, 4] (fun v i wr => ∃ (k : Nat) (l : List UInt8), k ≤ len ∧ i = .int .i64 k ∧ l.length = k ∧ v = .slice (some ⟨w.heap.size, 0, none⟩) k len ∧ wr.ownsRow w.heap.size 5 1 (.slice (some ⟨w.heap.size, 0, none⟩) k len) k (byteCells l) ∧ Below w.heap.size w wr)
    (fun _ i _ => len - (intOf i).toNat)
  case atStart => exact ⟨0, [], Nat.zero_le _, rfl, rfl, rfl, hown0, (Below.refl _ _).grown hgrow0 (Nat.le_refl _) (fun k h => by cases h)⟩
  case round =>
    obtain ⟨k, l, hk, rfl, hll, rfl, hown, hb⟩ := hrel
    by_cases hlt : k < len
    · obtain ⟨b, off, rfl, hbl, hc⟩ := h (by omega)
      obtain ⟨hc1, hc2, hc3⟩ := hc k hlt
      have hc4 : wr.cell? ⟨b, off + k, none⟩ = some (.int .u8 (zs.getD k 0)) := (hb.cell (by exact hbl)).trans hc1
      generalize zs.getD k 0 = z at *
      clear hc h hc1
      go_wp2_with (at_builtin; refine wpList_append_fits _ rfl _ _ 26 rfl w.heap.size 5 i0 1 Yba.underlying26 hi hz1 w.heap.size k len _ rfl (hown.alloc _) ⟨wr.heap.size, 0, none⟩ 1 1 [.int .u8 (UInt8.toNat _ : Nat)] rfl rfl (cell_one_new _ _ _) (ints_oneCell .u8 [_]) (by omega) ?_; intro w1 hown1 hgrow1)
      have hx := own_snoc hown1
      have hb1 : Below w.heap.size w w1 := (hb.alloc hb.size _).grown hgrow1 (by simp; have := hb.size; omega) (fun k hk => by cases hk; exact Nat.le_refl _)
      clear hown1 hgrow1 hown hown0 hgrow0
      obtain ⟨l', hl', hown'⟩ := hx
      go_roundw
      case rel => exact ⟨k + 1, l', by omega, by go_num, by omega, rfl, hown', hb1⟩
      case measure => simp [intOf]; omega
    · obtain rfl : k = len := by omega
      obtain ⟨s, hs, hcv⟩ := str_of hown hll
      have hs' : s.size ≤ maxLen := by unfold maxLen; omega
      clear hown hown0 hgrow0 h hlt hk hll
      go_wp2
      go_loop [6] (fun t => ∃ i : Nat, i ≤ s.size + 1 ∧ t = .int .i64 i) (fun t => s.size + 1 - (intOf t).toNat)
      case atStart => exact ⟨0, by omega, rfl⟩
      case round =>
        obtain ⟨i, hi1, rfl⟩ := hrel
        by_cases hlt : i ≤ s.size
        · go_wp2_with fail
          refine (exp_any s i _ hs' hlt).mono ?_
          rintro e w2 ⟨r, rfl, hr, rfl⟩
          go_wp2_with fail
          refine (model_any s i _ hs' hlt).mono ?_
          rintro e w2 ⟨q, rfl, hq, rfl⟩
          obtain rfl := hr.unique hq
          go_wp2_with fail
          refine (shape_any s i r _ hs' hr).mono ?_
          rintro e w2 ⟨rfl, rfl⟩
          go_wp2
          go_round
          case rel => exact ⟨i + 1, by omega, by go_num⟩
          case measure => simp [intOf]; omega
        · go_wp2
          go_ret
          exact ⟨rfl, hb⟩

/-! ### STEP 1: THE WALK: the Go text returns true, AND WRITES NOTHING THAT WAS THERE: 'Below w.heap.size w w'' (Derived/Below.lean: '.refl', '.alloc', '.drew', '.setCell' at a new block, '.trans'). Open each 'IsRow' by 'rcases' AHEAD of 'go_enter'; part every test ahead of the walk. -/
theorem walk (a0 : Option Addr) (len0 cap0 : Nat) (z0 : List Int) (w : World) (w0 : IsRow .u8 w a0 len0 cap0 z0) :
    Calls Yba.prog 4 #[.slice a0 len0 cap0] w fun e w' => e = .returned (.bool true) ∧ Below w.heap.size w w' := by
  by_cases hl : len0 ≤ 256
  · exact core a0 len0 cap0 z0 w (came0_of_row w0) hl
  · have hl' : 256 < len0 := by omega
    clear hl w0
    go_enter Yba.func4, Yba.ntmps4
    go_wp2
    go_ret
    exact ⟨rfl, Below.refl _ _⟩

/-! ### THE ROW's STEP: WRITTEN OUT: LEAVE IT -/
set_option maxRecDepth 100000 in
theorem lifted (os : Os) (started : os.Started) (H : Type) (enc : TypeId × Value → H) :
    ReturnsInHanded {} Yba.checked os 4 .any (Rows.lawS0231AEveryStartSpec.pre6 enc Yba.prog Yba.f4 Rows.lawS0231AEveryStartRow.domain false) (Rows.lawS0231AEveryStartSpec.post enc Yba.prog Yba.f4 false true false false) := by
  refine returnsInHanded_of_change (C := Yba.checked) own started (by kernel_rfl) Yba.func4
    (ChangeSpec.witness6 (enc := enc) (C := Yba.checked) false ⟨#[], #[.slice none 0 0], []⟩ 8 (by kernel_rfl) (by kernel_rfl) (by kernel_rfl) (by kernel_rfl)) ?_
  intro W base args ds gs before hval0 hW hcnd _
  have hval : ∀ (j : Nat) t v, Yba.f4.params[j]? = some t → args[j]? = some v → Value.okWide Yba.prog W .any base t v := hval0
  have hW' := hW
  obtain ⟨p, q, hA0, hV, rfl, hfz, hnd⟩ := hW
  have hA : DataW.TrodAll enc Yba.prog W 0 (fun _ => true) true Yba.f4.params.toList args.toList ds p := hA0
  rw [Yba.params4] at hA hval
  obtain ⟨v0, vs0, d0, ds0, p0, q0, hargs, rfl, rfl, h0, r0⟩ := trodAll_cons hA
  obtain ⟨rfl, rfl, rfl⟩ := trodAll_nil r0
  obtain rfl : args = #[v0] := by cases args; simp_all
  obtain ⟨rfl, rfl⟩ := trodVars_none hV
  obtain ⟨a0, len0, cap0, rfl⟩ := okWide_slice Yba.underlying26 (hval 0 26 v0 rfl rfl)
  have k0 := h0
  have lt0 : ∀ x ∈ p0, x.block < W.heap.size := by obtain ⟨m, hm⟩ := k0; exact DataW.trod_lt m _ _ _ hm
  obtain ⟨z0, w0⟩ : ∃ zs, IsRow .u8 W a0 len0 cap0 zs := by
    obtain ⟨fuel, hf⟩ := h0
    rcases open_ints Yba.underlying26 Yba.underlying5 (by kernel_rfl) hf with ⟨hcs, _⟩ | ⟨x, l, c, zs, hcs, _, hl, hm, hz, _, hcell, hwz⟩
    · simp [Value.cells] at hcs
      obtain ⟨rfl, rfl, rfl⟩ := hcs
      exact ⟨[], .inl ⟨rfl, rfl, rfl, rfl⟩⟩
    · simp [Value.cells] at hcs
      obtain ⟨rfl, rfl, rfl⟩ := hcs
      exact ⟨zs, .inr ⟨_, rfl, hl, hm, by simpa using hz, hcell, hwz⟩⟩
  clear hA0 hval0
  refine (walk a0 len0 cap0 z0 W w0).mono fun e W' ⟨he, bel⟩ => ?_
  subst he
  exact ⟨_, rfl, _, _, _, [], _, [], hW', trodAll_mk1 (shut_bool Yba.underlying4 _), (trodAll_cons_mk (Below.trod laidOut (by kernel_rfl) (of_decide_eq_true (by kernel_rfl)) k0 bel lt0) trodAll_mk0), rfl, bel.frame _, fun h => by cases h⟩

theorem over : Rows.lawS0231AEveryStartRow.holds Yba.pinned (OpenSpec.ofChange Rows.lawS0231AEveryStartSpec) :=
  OpenClaim.holds_of_wide 4 Yba.f4 rfl rfl rfl rfl rfl rfl rfl ⟨rfl, rfl, rfl, rfl, rfl⟩ rfl rfl rfl rfl rfl (by kernel_rfl) Yba.func4 (by kernel_rfl)
    (of_decide_eq_true (by kernel_rfl)) (by unfold Func.isWrapper; first | (rw [if_pos (by decide +kernel)]; kernel_rfl) | (rw [if_neg (by decide +kernel)]; exact ⟨rfl, rfl⟩))
    (fun os started H enc _ => lifted os started H enc)

/-- ████ THE STATEMENT ████ -/
theorem proved : Rows.LawS0231AEveryStartSaid := over
end Go.Proofs.Ybulkdtk.lawS0231AEveryStart
