/-
  Seat b0230a: the servers sorted (slices.SortFunc, 6), off the shelf.
-/
import Derived.Test.YbulkdswFind
import Derived.Shelf.SlSortCmp.SmallK
import Derived.Shelf.Small.Bits
import Derived.Ground.SlsfProg
namespace Go.Proofs.Ybulkdsw
open Go.RowKit Go.Shelf Go.Lib Go.Sort

shelf_lay_g SlLaysF0.n6 Slsf 6 at Yba 6 as Yba.sortL
shelf_lay Lays.n125 Nm 125 at Yba as Yba.bitsLen

def cmpE (x y : E) : Int := cmpK x.1 y.1
theorem lt_cmpE (x y : E) : ltOf cmpE x y = decide (x.1 < y.1) := by
  have := cmpK_neg x.1 y.1
  simp [ltOf, cmpE, this]
theorem swoE : SWO (ltOf cmpE) := by
  refine ⟨fun x => ?_, fun x y z h1 h2 => ?_, fun x y z h1 h2 => ?_⟩
  · rw [lt_cmpE]; simp
  · rw [lt_cmpE] at h1 h2 ⊢
    simp at h1 h2 ⊢
    exact Fin.lt_trans h1 h2
  · rw [lt_cmpE] at h1 h2 ⊢
    simp at h1 h2 ⊢
    exact Fin.le_trans h2 h1

theorem cmpLays7 (blk size : Nat) (w : World) : CmpLays Yba.prog 7 #[] encE 26 cmpE blk 0 size w := fun _ _ _ _ x y => closure7 x y _
theorem hlen (n : Nat) (W : World) (h : n ≤ 12) : Calls Yba.prog 11 #[.int .u64 n] W fun e w' => (∃ l : Int, e = .returned (.int .i64 l)) ∧ w' = W :=
  (Any.bits_Len Yba.bitsLen n W (by omega) (by omega)).mono fun _ _ ⟨he, hw⟩ => ⟨⟨_, he⟩, hw⟩

theorem kept_sort (w : World) (lb m : Nat) (d : Array E) (os : Array Obj) : Kept [lb] w (sortWorldK encE 26 w lb 0 m d os) := by
  refine ⟨rfl, rfl, rfl, size_sortWorldK_c encE 26 w lb 0 m d os, fun k hk hn => ?_⟩
  have hne : lb ≠ k := fun h => hn (by simp [h])
  unfold sortWorldK
  show ((putRowK encE 26 (Sort.ahead w m) lb 0 d).heap ++ os)[k]? = _
  have hsz : k < (putRowK encE 26 (Sort.ahead w m) lb 0 d).heap.size := by rw [size_putRowK]; exact hk
  rw [Array.getElem?_append_left hsz]
  unfold putRowK putRow mapBlock
  simp [Array.getElem?_modify, hne]

theorem sort_any (lb cap : Nat) (d : Array E) (w : World) (hR : Row w lb d) (hl : lb < w.heap.size) (hn : d.size ≤ 5) :
    Calls Yba.prog 6 #[.slice (some ⟨lb, 0, none⟩) d.size cap, .func (.func 7) #[] #[]] w fun e w' => e = .returned (.tuple #[]) ∧
      ∃ d' : Array E, d'.size = d.size ∧ d'.toList.Perm d.toList ∧ (∀ i j, i < j → j < d'.size → ¬ d'[j]!.1 < d'[i]!.1) ∧ Row w' lb d' ∧ Kept [lb] w w' := by
  have eg : ∀ args w, (callFunc 7 args).run Yba.prog w = .ok (.enter 7 args) w := enters_of Yba.func7 (by kernel_rfl) rfl
  have h := AnyQ.slices_SortFunc_small_sorted Yba.sortL 26 Yba.isAgg43 Yba.sizeOf43 encE encE_len (fun x => sd_one _ _ _ _) cmpE 7 #[] swoE lb 0 cap d w eg (cmpLays7 lb d.size w) hR hl (by omega) hlen
  refine h.mono ?_
  rintro e w' ⟨rfl, d', n, os, hp, hs, rfl⟩
  refine ⟨rfl, d', hp.1, ?_, ?_, holdsK_sortWorldK_c encE 26 w lb 0 d d' n os hR hl hp.1, ?_⟩
  · have := hp.2.2
    rw [Array.toList_extract, Array.toList_extract] at this
    simp only [List.extract_eq_drop_take', List.drop_zero] at this
    rw [List.take_of_length_le (by simp [hp.1]), List.take_of_length_le (by simp)] at this
    exact this
  · intro i j hij hj
    have := hs i j (Nat.zero_le _) hij (by rw [← hp.1]; exact hj)
    rw [lt_cmpE] at this
    simpa using this
  · exact kept_sort w lb n d' os
end Go.Proofs.Ybulkdsw
