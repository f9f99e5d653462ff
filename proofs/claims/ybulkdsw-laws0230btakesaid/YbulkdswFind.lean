/-
  Seat b0230a: the walks of slices.BinarySearchFunc (26), serverIndex (13).
-/
import Derived.Test.YbulkdswSteps
namespace Go.Proofs.Ybulkdsw
open Go.RowKit Go.Shelf Go.Lib Go.Sort

/-- the servers' row: d.size elements of 26 cells -/
abbrev Row (w : World) (lb : Nat) (d : Array E) : Prop := HoldsK encE 26 w lb 0 d
theorem Row.kept {w w' : World} {S : List Nat} {lb : Nat} {d : Array E} (h : Row w lb d) (k : Kept S w w') (hl : lb < w.heap.size) (hn : lb ∉ S) : Row w' lb d := by
  intro j hj
  have := h j hj
  rw [k.cell (p := ⟨lb, 0 + j, none⟩) hl hn]
  refine ⟨this.1, ?_⟩
  have hb := k.block lb hl hn
  have h2 := this.2
  unfold World.frozen? at h2 ⊢
  simpa [hb] using h2
theorem Row.cell0 {w : World} {lb : Nat} {d : Array E} (h : Row w lb d) {j : Nat} (hj : j < d.size) {x : E} (hx : d[j]! = x) : w.cell? ⟨lb, j * 26, none⟩ = some (.string (addrS x.1)) := by
  have := (HoldsK.cell h hj (show 0 < 26 by omega)).1
  rw [hx] at this
  simp only [Nat.zero_add, Nat.add_zero] at this
  exact this
theorem Row.cellc {w : World} {lb : Nat} {d : Array E} (h : Row w lb d) {j : Nat} (hj : j < d.size) {x : E} (hx : d[j]! = x) (c : Nat) (hc : c < 26) :
    w.cell? ⟨lb, j * 26 + c, none⟩ = (sdCells (addrS x.1) ⟨#[]⟩ x.2.1 x.2.2)[c]? := by
  have := (HoldsK.cell h hj hc).1
  rw [hx] at this
  rw [Nat.zero_add] at this
  rw [this]
  have hl : c < (encE x).length := hc
  show some (encE x)[c]! = (encE x)[c]?
  rw [List.getElem?_eq_getElem hl, getElem!_pos _ c hl]

theorem Row.load {w : World} {lb : Nat} {d : Array E} (h : Row w lb d) {j : Nat} (hj : j < d.size) {x : E} (hx : d[j]! = x) : (loadCellsFrom ⟨lb, j * 26, none⟩ 0 26 #[]).run Yba.prog w = .ok (encE x).toArray w := by
  have := run_loadCellsFrom_list Yba.prog _ _ _ 26 (encE_len _) (HoldsK.cells h encE_len hj)
  rw [hx, Nat.zero_add] at this
  exact this

theorem cmpK_neg : ∀ a b : Fin 6, cmpK a b < 0 ↔ a < b := by decide
theorem cmpK_zero : ∀ a b : Fin 6, cmpK a b = 0 ↔ a = b := by decide

def Found (d : Array E) (y : Fin 6) (i : Nat) : Prop := i ≤ d.size ∧ (∀ t, t < i → d[t]!.1 < y) ∧ ∀ t, i ≤ t → t < d.size → ¬ d[t]!.1 < y
def Strict (d : Array E) : Prop := ∀ i j, i < j → j < d.size → d[i]!.1 < d[j]!.1

set_option maxRecDepth 100000 in
set_option maxHeartbeats 4000000 in
theorem find_any (lb cap : Nat) (d : Array E) (y : Fin 6) (w : World) (hR : Row w lb d) (hl : lb < w.heap.size) (hS : Strict d) (hn : d.size ≤ 5) :
    Calls Yba.prog 26 #[.slice (some ⟨lb, 0, none⟩) d.size cap, .string (addrS y), .func (.func 27) #[] #[]] w fun e w' => (∃ i : Nat, e = .returned (.tuple #[.int .i64 i, .bool (decide (i < d.size ∧ d[i]!.1 = y))]) ∧ Found d y i) ∧ Kept [] w w' := by
  have HR := hide' hR
  have HS := hide' hS
  clear hR hS
  obtain ⟨n, hnn⟩ : ∃ n, d.size = n := ⟨_, rfl⟩
  have hn' : n ≤ 5 := by omega
  rw [hnn]
  have HN := hide' hnn
  clear hnn hn
  go_enter Yba.func26, Yba.ntmps26
  go_wp2
  go_loopw [9, 10] (fun iv jv wr => ∃ i j : Nat, iv = .int .i64 i ∧ jv = .int .i64 j ∧ i ≤ j ∧ j ≤ n ∧ Hid (∀ t, t < i → d[t]!.1 < y) ∧ Hid (∀ t, j ≤ t → t < n → ¬ d[t]!.1 < y) ∧ Hid (Kept [] w wr)) (fun iv jv _ => ((intOf jv) - (intOf iv)).toNat)
  case atStart => exact ⟨0, n, rfl, rfl, Nat.zero_le _, Nat.le_refl _, hide' (fun t h => by omega), hide' (fun t h h2 => by omega), hide' (Kept.refl _ _)⟩
  case round =>
    obtain ⟨i, j, rfl, rfl, hij, hjn, HI, HJ, HK⟩ := hrel
    by_cases hlt : i < j
    · have hltz : (i : Int) < (j : Int) := by omega
      obtain ⟨x, hx⟩ : ∃ x, d[(i + j) / 2]! = x := ⟨_, rfl⟩
      have hR2 := HR.out.kept HK.out hl (by simp)
      have hj2 : (i + j) / 2 < d.size := by rw [HN.out]; omega
      have lj := hR2.load hj2 hx
      have HX := hide' hx
      have HC := hide' (closure27 x y)
      have hm1 : (i + j) / 2 < n := by omega
      have hm2 : i ≤ (i + j) / 2 := by omega
      have hm3 : (i + j) / 2 < j := by omega
      clear hR2 hj2 hx
      have HI2 : x.1 < y → Hid (∀ t, t < (i + j) / 2 + 1 → d[t]!.1 < y) := fun hxy t ht => by
        by_cases h : t < (i + j) / 2
        · exact Fin.lt_trans (HS.out t _ h (by rw [HN.out]; omega)) (by rw [HX.out]; exact hxy)
        · obtain rfl : t = (i + j) / 2 := by omega
          rw [HX.out]
          exact hxy
      have HJ2 : ¬ x.1 < y → Hid (∀ t, (i + j) / 2 ≤ t → t < n → ¬ d[t]!.1 < y) := fun hxy t ht htn hlt => by
        by_cases h : (i + j) / 2 < t
        · have := HS.out _ t h (by rw [HN.out]; omega)
          rw [HX.out] at this
          exact hxy (Fin.lt_trans this hlt)
        · obtain rfl : t = (i + j) / 2 := by omega
          rw [HX.out] at hlt
          exact hxy hlt
      have HI3 := hide' HI2
      have HJ3 := hide' HJ2
      clear HI2 HJ2 HX
      go_wp2_with (refine load43 rfl _ rfl _ _ rfl lj ?_)
      refine Calls.mono (HC.out _) ?_
      rintro e w1 ⟨rfl, k1⟩
      have K1 := hide' (HK.out.then k1 (by simp))
      clear HK k1 HC lj
      have HT := hide' (cmpK_neg x.1 y)
      generalize cmpK x.1 y = c at HT ⊢
      by_cases hc : c < 0
      · have HI4 := HI3.out (HT.out.1 hc)
        clear HI3 HJ3 HT
        go_wp2_with fail
        go_roundw
        case rel => exact ⟨(i + j) / 2 + 1, j, by go_num, rfl, by omega, hjn, HI4, HJ, K1⟩
        case measure => simp [intOf]; omega
      · have HJ4 := HJ3.out (fun h => hc (HT.out.2 h))
        clear HI3 HJ3 HT
        go_wp2_with fail
        go_roundw
        case rel => exact ⟨i, (i + j) / 2, rfl, by go_num, hm2, by omega, HI, HJ4, K1⟩
        case measure => simp [intOf]; omega
    · obtain rfl : i = j := by omega
      clear hlt
      by_cases hin : i < n
      · have hinz : (i : Int) < (n : Int) := by omega
        obtain ⟨x, hx⟩ : ∃ x, d[i]! = x := ⟨_, rfl⟩
        have hR2 := HR.out.kept HK.out hl (by simp)
        have lj := hR2.load (show i < d.size by rw [HN.out]; exact hin) hx
        have HX := hide' hx
        have HC := hide' (closure27 x y)
        clear hR2 hx
        go_wp2_with (refine load43w _ rfl rfl _ _ rfl lj ?_)
        refine Calls.mono (HC.out _) ?_
        rintro e w1 ⟨rfl, k1⟩
        have K1 := hide' (HK.out.then k1 (by simp))
        clear HK k1 HC lj
        have HT := hide' (cmpK_zero x.1 y)
        generalize cmpK x.1 y = c at HT ⊢
        by_cases hc : c = 0
        · have HXY := hide' (HT.out.1 hc)
          subst hc
          clear HT
          go_wp2_with fail
          go_ret2
          refine ⟨⟨i, ?_, by rw [HN.out]; exact hjn, HI.out, by rw [HN.out]; exact HJ.out⟩, K1.out⟩
          rw [decide_eq_true ⟨hin, by rw [HX.out]; exact HXY.out⟩]
          rfl
        · have HXY := hide' (fun h => hc (HT.out.2 h))
          have hcb : (c == 0) = false := by simpa using hc
          clear HT
          go_wp2_with fail
          go_ret2
          refine ⟨⟨i, ?_, by rw [HN.out]; exact hjn, HI.out, by rw [HN.out]; exact HJ.out⟩, K1.out⟩
          rw [decide_eq_false (fun h => HXY.out (by rw [← HX.out]; exact h.2))]
          rfl
      · obtain rfl : i = n := by omega
        go_wp2_with fail
        go_ret2
        refine ⟨⟨i, ?_, by rw [HN.out]; exact hjn, HI.out, by rw [HN.out]; exact HJ.out⟩, HK.out⟩
        rw [decide_eq_false (fun h => by omega)]
        rfl

/-- a topology's seven cells -/
abbrev topo (ty : Int) (lb n cap : Nat) : Value := .agg #[.int .i64 ty, .string ⟨#[]⟩, .slice (some ⟨lb, 0, none⟩) n cap, .nilIface, .pointer none, .pointer none, .pointer none]

set_option maxRecDepth 100000 in
set_option maxHeartbeats 4000000 in
theorem index_any (ty : Int) (lb cap : Nat) (d : Array E) (y : Fin 6) (w : World) (hR : Row w lb d) (hl : lb < w.heap.size) (hS : Strict d) (hn : d.size ≤ 5) :
    Calls Yba.prog 13 #[topo ty lb d.size cap, .string (addrS y)] w fun e w' => (∃ i : Nat, e = .returned (.tuple #[.int .i64 i, .bool (decide (i < d.size ∧ d[i]!.1 = y))]) ∧ Found d y i) ∧ Kept [] w w' := by
  have HF := hide' (fun (W : World) (hW : Kept [] w W) => find_any lb cap d y W (hR.kept hW hl (by simp)) (Nat.lt_of_lt_of_le hl hW.size) hS hn)
  clear hR hS hn
  go_enter Yba.func13, Yba.ntmps13
  go_wp2_with fail
  refine Calls.mono (HF.out _ ((Kept.refl _ _).alloc _)) ?_
  rintro e w1 ⟨⟨i, rfl, hf⟩, k1⟩
  have K1 := hide' (((Kept.refl [] w).alloc _).then k1 (by simp))
  have F1 := hide' hf
  clear HF k1 hf
  obtain ⟨b, hb⟩ : ∃ b, decide (i < d.size ∧ d[i]!.1 = y) = b := ⟨_, rfl⟩
  rw [hb]
  have HB := hide' hb
  clear hb
  go_wp2_with fail
  go_ret2
  refine ⟨⟨i, ?_, F1.out⟩, K1.out⟩
  rw [HB.out]
  rfl
end Go.Proofs.Ybulkdsw
