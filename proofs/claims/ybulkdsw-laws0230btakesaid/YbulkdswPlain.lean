/-
  Seat b0230a: what the law's loops keep, in plain words.
-/
import Derived.Test.YbulkdswSort
import Derived.Test.YbulkdswTake
namespace Go.Proofs.Ybulkdsw
open Go.RowKit Go.Shelf Go.Lib Go.Sort

/-- the servers handed in -/
def Srvs (w : World) (a : Option Addr) (m : Nat) : Prop :=
  0 < m → ∃ b off, a = some ⟨b, off, none⟩ ∧ b < w.heap.size ∧ ∀ i, i < m → ∃ (k : Nat) (h : Bool) (p : Nat) (c g : Int), k < 256 ∧ p < 256 ∧
    w.cell? ⟨b, off + i * 5, none⟩ = some (.int .u8 k) ∧ w.cell? ⟨b, off + i * 5 + 1, none⟩ = some (.bool h) ∧ w.cell? ⟨b, off + i * 5 + 2, none⟩ = some (.int .u8 p) ∧
    w.cell? ⟨b, off + i * 5 + 3, none⟩ = some (.int .i64 c) ∧ w.cell? ⟨b, off + i * 5 + 4, none⟩ = some (.int .u64 g)

/-- the list as the first loop builds it -/
structure LS (w wr : World) (lb : Nat) (L : List E) : Prop where
  own : wr.ownsRow w.heap.size 43 26 (.slice (some ⟨lb, 0, none⟩) L.length 5) L.length (L.flatMap encE)
  kept : Kept [] w wr
  tvs : ∀ e ∈ L, ∃ x, TVAt wr e.2.1 x
  nod : (L.map (·.1)).Nodup
  lt5 : ∀ e ∈ L, e.1.val < 5

theorem row_block26 {w : World} {B g n cap e : Nat} {xs : List Value} (h : w.ownsRow B e 26 (.slice (some ⟨g, 0, none⟩) n cap) n xs) : ∃ cur : List Value, w.heap[g]? = some (.cells cur.toArray e (0, 0)) ∧ cur.length = cap * 26 ∧ cur.take (n * 26) = xs ∧ B ≤ g ∧ n ≤ cap := by
  rcases h.2 with ⟨e, _⟩ | ⟨g', cap', cur, e, hB, hg, h1, h2, hs, ht⟩
  · cases e
  · cases e
    exact ⟨cur.toList, by simpa using hg, by simpa using hs, by simpa using ht, hB, h1⟩

theorem nodup_lt : ∀ (n : Nat) (L : List Nat), L.Nodup → (∀ x ∈ L, x < n) → L.length ≤ n
  | 0, L, _, h => by
    cases L with
    | nil => simp
    | cons x _ => exact absurd (h x (by simp)) (by omega)
  | n + 1, L, hn, h => by
    have h1 := nodup_lt n (L.erase n) (hn.erase n) (fun x hx => by
      have h2 := h x (List.mem_of_mem_erase hx)
      have hne : x ≠ n := by
        rintro rfl
        exact (List.Nodup.not_mem_erase hn) hx
      omega)
    by_cases hm : n ∈ L
    · rw [List.length_erase_of_mem hm] at h1
      omega
    · rw [List.erase_of_not_mem hm] at h1
      omega
theorem nodup_le (L : List (Fin 6)) (hn : L.Nodup) (h : ∀ e ∈ L, e.val < 5) : L.length ≤ 5 := by
  have h2 : (L.map (fun e => e.val)).Nodup := List.pairwise_map.2 (List.Pairwise.imp (fun h e => h (Fin.ext e)) hn)
  have := nodup_lt 5 _ h2 (fun x hx => by obtain ⟨e, he, rfl⟩ := List.mem_map.1 hx; exact h e he)
  simpa using this
theorem LS.len {w wr : World} {lb : Nat} {L : List E} (h : LS w wr lb L) : L.length ≤ 5 := by
  have := nodup_le (L.map (·.1)) h.nod (fun e he => by obtain ⟨x, hx, rfl⟩ := List.mem_map.1 he; exact h.lt5 x hx)
  simpa using this

theorem flat_get : ∀ (L : List E) (j i : Nat), i < 26 → j < L.length → (L.flatMap encE)[j * 26 + i]? = (encE L[j]!)[i]?
  | [], j, i, _, hj => by simp at hj
  | x :: L, 0, i, hi, _ => by
    have : i < (encE x).length := hi
    simp [List.flatMap_cons, List.getElem?_append_left this]
  | x :: L, j + 1, i, hi, hj => by
    have e : (j + 1) * 26 + i = (encE x).length + (j * 26 + i) := by rw [encE_len]; omega
    rw [List.flatMap_cons, e, List.getElem?_append_right (Nat.le_add_right _ _), Nat.add_sub_cancel_left, flat_get L j i hi (by simpa using hj)]
    simp

theorem LS.row {w wr : World} {lb : Nat} {L : List E} (h : LS w wr lb L) : Row wr lb L.toArray := by
  obtain ⟨cur, hc, hl, ht, _, _⟩ := row_block26 h.own
  intro t htt
  have htt' : t < L.length * 26 := by simpa using htt
  have hj : t / 26 < L.length := by omega
  have hi : t % 26 < 26 := by omega
  refine ⟨?_, free_box hc⟩
  rw [Nat.zero_add, box_cell hc]
  have e1 : cur.toArray[t]? = (cur.take (L.length * 26))[t]? := by simp [htt']
  have e2 := flat_get L (t / 26) (t % 26) hi hj
  rw [show t / 26 * 26 + t % 26 = t by omega] at e2
  rw [e1, ht, e2]
  have hg : (flatK encE 26 L.toArray)[t]! = (encE L.toArray[t / 26]!)[t % 26]! := get_flatK _ _ _ _ (by simpa using htt')
  show _ = some (id (flatK encE 26 L.toArray)[t]!)
  have hl2 : t % 26 < (encE L[t / 26]!).length := by rw [encE_len]; exact hi
  rw [id, hg, List.getElem?_eq_getElem hl2]
  have e3 : L.toArray[t / 26]! = L[t / 26]! := by simp
  rw [e3]
  exact congrArg some (getElem!_pos (encE L[t / 26]!) (t % 26) hl2).symm

theorem LS.then {w wr w' : World} {lb : Nat} {L : List E} (h : LS w wr lb L) (k : Kept [] wr w') : LS w w' lb L := by
  refine ⟨?_, h.kept.then k (by simp), fun e he => ?_, h.nod, h.lt5⟩
  · obtain ⟨cur, hc, hl, ht, hB, hn⟩ := row_block26 h.own
    refine ⟨h.own.1, ?_⟩
    rcases h.own.2 with ⟨e, _⟩ | ⟨g', cap', cur, e, hB, hg, r⟩
    · cases e
    · refine .inr ⟨g', cap', cur, e, hB, ?_, r⟩
      cases e
      exact (k.block _ (lt_box hg) (by simp)).trans hg
  · obtain ⟨x, hx⟩ := h.tvs e he
    exact ⟨x, hx.kept (Kept.refl _ _) k⟩

theorem Kept.of_grown {a b : World} {g : Nat} (h : a.grownBy b (some g)) : Kept [g] a b := ⟨h.os, h.tape, h.output, h.size, fun i hi hn => h.block i hi (by simpa using hn)⟩
theorem TVAt.far {w w2 : World} {t : Option Addr} {x : Option (Int × Int)} {lb : Nat} {cur : Array Value} (h : TVAt w t x) (hl : w.heap[lb]? = some (.cells cur 43 (0, 0))) (k : Kept [lb] w w2) : TVAt w2 t x := by
  match x, h with
  | none, h => exact h
  | some (p, c), ⟨b, e, hb⟩ =>
    refine ⟨b, e, ?_⟩
    have hne : b ≠ lb := by
      rintro rfl
      rw [hb] at hl
      simp at hl
    rw [k.block b (lt_box hb) (by simpa using hne)]
    exact hb

theorem new_nodup {L : List E} {f : Fin 6} (hn : (L.map (·.1)).Nodup) (hne : ∀ t, t < L.length → L[t]!.1 ≠ f) (t : Option Addr) (g : Int) : ((L ++ [((f, t, g) : E)]).map (·.1)).Nodup := by
  rw [List.map_append, List.nodup_append]
  refine ⟨hn, by simp, fun a ha b hb => ?_⟩
  simp at hb
  subst hb
  rintro rfl
  obtain ⟨x, hx, hxe⟩ := List.mem_map.1 ha
  obtain ⟨j, hj, hjx⟩ := List.mem_iff_getElem.1 hx
  have := hne j hj
  rw [getElem!_pos L j hj, hjx] at this
  exact this hxe
theorem room {w wr : World} {lb : Nat} {L : List E} {f : Fin 6} (h : LS w wr lb L) (hf : f.val < 5) (hne : ∀ t, t < L.length → L[t]!.1 ≠ f) : L.length + 1 ≤ 5 := by
  have h2 := nodup_le ((L ++ [((f, none, 0) : E)]).map (·.1)) (new_nodup h.nod hne none 0) (fun e he => by
    obtain ⟨x, hx, rfl⟩ := List.mem_map.1 he
    rcases List.mem_append.1 hx with h' | h'
    · exact h.lt5 x h'
    · simp at h'
      subst h'
      exact hf)
  simpa using h2
theorem LS.push {w w2 w3 : World} {lb : Nat} {L : List E} {f : Fin 6} {t : Option Addr} {g : Int} {x : Option (Int × Int)} (h : LS w w2 lb L) (hlb : w.heap.size ≤ lb)
    (own : w3.ownsRow w.heap.size 43 26 (.slice (some ⟨lb, 0, none⟩) (L.length + 1) 5) (L.length + 1) (L.flatMap encE ++ encE (f, t, g))) (hg : w2.grownBy w3 (some lb)) (tv : TVAt w2 t x) (hf : f.val < 5) (hne : ∀ t, t < L.length → L[t]!.1 ≠ f) : LS w w3 lb (L ++ [(f, t, g)]) := by
  have k := Kept.of_grown hg
  obtain ⟨cur, hc, _, _, _, _⟩ := row_block26 h.own
  refine ⟨?_, h.kept.then k (fun t ht hlt => by simp at ht; omega), fun e he => ?_, new_nodup h.nod hne t g, fun e he => ?_⟩
  · simpa [List.flatMap_append] using own
  · rcases List.mem_append.1 he with h' | h'
    · obtain ⟨y, hy⟩ := h.tvs e h'
      exact ⟨y, hy.far hc k⟩
    · simp at h'
      subst h'
      exact ⟨x, tv.far hc k⟩
  · rcases List.mem_append.1 he with h' | h'
    · exact h.lt5 e h'
    · simp at h'
      subst h'
      exact hf

theorem strict_of {L : List E} {d : Array E} (hp : d.toList.Perm L) (hs : ∀ i j, i < j → j < d.size → ¬ d[j]!.1 < d[i]!.1) (hn : (L.map (·.1)).Nodup) : Strict d := by
  intro i j hij hj
  have h1 := hs i j hij hj
  have hn2 : (d.toList.map (·.1)).Nodup := (List.Perm.map _ hp).nodup_iff.2 hn
  have hne : d[i]!.1 ≠ d[j]!.1 := by
    have := List.pairwise_iff_getElem.1 (List.pairwise_map.1 hn2) i j (by simp; omega) (by simpa using hj) hij
    rw [getElem!_pos d i (by omega), getElem!_pos d j hj]
    simpa using this
  omega
/-- the sorted servers, in whatever later world -/
structure DS (w wx : World) (lb : Nat) (d : Array E) (tvs : Nat → Option (Int × Int)) : Prop where
  row : Row wx lb d
  lt : lb < wx.heap.size
  tv : ∀ j, j < d.size → TVAt wx d[j]!.2.1 (tvs j)
  kept : Kept [] w wx
  strict : Strict d
  n5 : d.size ≤ 5
theorem DS.then {w wx w' : World} {lb : Nat} {d : Array E} {tvs : Nat → Option (Int × Int)} (h : DS w wx lb d tvs) (k : Kept [] wx w') : DS w w' lb d tvs :=
  ⟨h.row.kept k h.lt (by simp), Nat.lt_of_lt_of_le h.lt k.size, fun j hj => (h.tv j hj).kept (Kept.refl _ _) k, h.kept.then k (by simp), h.strict, h.n5⟩
theorem LS.sorted {w wr w' : World} {lb : Nat} {L : List E} {d : Array E} (h : LS w wr lb L) (hlb : w.heap.size ≤ lb) (hsz : d.size = L.toArray.size) (hp : d.toList.Perm L.toArray.toList) (hs : ∀ i j, i < j → j < d.size → ¬ d[j]!.1 < d[i]!.1) (hr : Row w' lb d) (k : Kept [lb] wr w') :
    ∃ tvs, DS w w' lb d tvs := by
  obtain ⟨cur, hc, _, _, _, _⟩ := row_block26 h.own
  have hp' : d.toList.Perm L := by simpa using hp
  have hall : ∀ j : Nat, ∃ x, j < d.size → TVAt w' d[j]!.2.1 x := fun j => by
    by_cases hj : j < d.size
    · have hm : d[j]! ∈ L := hp'.mem_iff.1 (by rw [getElem!_pos d j hj]; simp)
      obtain ⟨x, hx⟩ := h.tvs _ hm
      exact ⟨x, fun _ => hx.far hc k⟩
    · exact ⟨none, fun hh => absurd hh hj⟩
  obtain ⟨tvs, htvs⟩ := Classical.axiomOfChoice hall
  refine ⟨tvs, hr, Nat.lt_of_lt_of_le (lt_box hc) k.size, htvs, h.kept.then k (fun t ht hlt => by simp at ht; omega), strict_of hp' hs h.nod, ?_⟩
  have := h.len
  rw [hsz]
  simpa using this

theorem info23 : (Yba.prog.info? 23).map (fun i => (i.zero, i.size, i.bytes)) = some (some (.int .u64 0), 1, 8) := by kernel_rfl
/-- the generations' row: so far filled up to j -/
def Gens (wx : World) (gb n j : Nat) (d : Array E) : Prop := ∃ cur : List Value, wx.heap[gb]? = some (.cells cur.toArray 23 (0, 0)) ∧ cur.length = n ∧ ∀ t, t < j → cur[t]? = some (.int .u64 d[t]!.2.2)
theorem Gens.then {wx w' : World} {gb n j : Nat} {d : Array E} (h : Gens wx gb n j d) (k : Kept [] wx w') : Gens w' gb n j d := by
  obtain ⟨cur, h1, h2, h3⟩ := h
  exact ⟨cur, (k.block gb (lt_box h1) (by simp)).trans h1, h2, h3⟩
theorem Gens.set {wx : World} {gb n j : Nat} {d : Array E} (h : Gens wx gb n j d) (hj : j < n) : Gens (wx.setCell ⟨gb, j, none⟩ (.int .u64 d[j]!.2.2)) gb n (j + 1) d := by
  obtain ⟨cur, h1, h2, h3⟩ := h
  refine ⟨cur.set j (.int .u64 d[j]!.2.2), ?_, by simpa using h2, fun t ht => ?_⟩
  · rw [set_block h1]
    simp
  · by_cases e : t = j
    · subst e
      rw [List.getElem?_set_self (by omega)]
    · rw [List.getElem?_set_ne (Ne.symm e)]
      exact h3 t (by omega)
theorem make_gens (w : World) (n : Nat) (d : Array E) (hn : n ≤ 5) : ∃ w', (Instr.makeSlice 48 (.int .i64 (n : Int)) (.int .i64 (n : Int))).run Yba.prog w = .ok (.slice (some ⟨w.heap.size, 0, none⟩) n n) w' ∧ Gens w' w.heap.size n 0 d ∧ Kept [] w w' := by
  obtain ⟨i0, hi, hz0, hz1, hz2⟩ := info_parts info23
  have h := run_makeSlice (P := Yba.prog) w 48 23 i0 (.int .u64 0) Yba.underlying48 hi hz0 .i64 .i64 n n (by omega) (Int.le_refl _) (by rw [hz1]; omega) (by rw [hz2]; omega) (by omega)
  rw [Int.toNat_natCast, hz1] at h
  refine ⟨_, h, ⟨(madeCells (Value.int .u64 0).cells (n * 1)).toList, by simpa using heap_alloc_new _ _, ?_, by simp⟩, (Kept.refl _ _).alloc _⟩
  simp [size_madeCells]

/-- all that the law's tail reads -/
structure AF (w wx : World) (lb gb tb sb ob n : Nat) (ty : Int) (d : Array E) (tvs : Nat → Option (Int × Int)) (y : Fin 6) (t2 : Option Addr) (gen g' : Int) (x2 : Option (Int × Int)) : Prop where
  ds : DS w wx lb d tvs
  gs : Gens wx gb n n d
  tp : wx.heap[tb]? = some (.cells #[.int .i64 ty, .string ⟨#[]⟩, .slice (some ⟨lb, 0, none⟩) n 5, .nilIface, .pointer none, .pointer none, .pointer none] 51 (0, 0))
  sv : wx.heap[sb]? = some (.cells (srv y t2 gen) 43 (0, 0))
  gt : wx.heap[ob]? = some (.cells (srv y t2 g') 43 (0, 0))
  tv : TVAt wx t2 x2
theorem AF.then {w wx w' : World} {lb gb tb sb ob n : Nat} {ty : Int} {d : Array E} {tvs : Nat → Option (Int × Int)} {y : Fin 6} {t2 : Option Addr} {gen g' : Int} {x2 : Option (Int × Int)} (h : AF w wx lb gb tb sb ob n ty d tvs y t2 gen g' x2) (k : Kept [] wx w') :
    AF w w' lb gb tb sb ob n ty d tvs y t2 gen g' x2 :=
  ⟨h.ds.then k, h.gs.then k, (k.block tb (lt_box h.tp) (by simp)).trans h.tp, (k.block sb (lt_box h.sv) (by simp)).trans h.sv, (k.block ob (lt_box h.gt) (by simp)).trans h.gt, h.tv.kept (Kept.refl _ _) k⟩

def wantAt (d : Array E) (y : Fin 6) (i0 j : Nat) : Int := if i0 < j ∧ d[i0]!.1 = y then (i0 : Int) else -1
theorem at_eq {d : Array E} {y : Fin 6} {i0 j : Nat} (hF : Found d y i0) (hS : Strict d) (hj : j < d.size) (h : d[j]!.1 = y) : j = i0 := by
  have h1 : i0 ≤ j := by
    rcases Nat.lt_or_ge j i0 with hh | hh
    · have := hF.2.1 j hh
      rw [h] at this
      exact absurd this (by omega)
    · exact hh
  rcases Nat.lt_or_ge i0 j with hh | hh
  · have h2 := hS i0 j hh hj
    rw [h] at h2
    exact absurd h2 (hF.2.2 i0 (Nat.le_refl _) (by omega))
  · omega
theorem at_lt {d : Array E} {y : Fin 6} {i0 j : Nat} (hF : Found d y i0) (hj : j < d.size) (h : d[j]!.1 < y) : j < i0 := by
  rcases Nat.lt_or_ge j i0 with hh | hh
  · exact hh
  · exact absurd h (hF.2.2 j hh hj)
theorem at_ge {d : Array E} {y : Fin 6} {i0 j : Nat} (hF : Found d y i0) (h : ¬ d[j]!.1 < y) : i0 ≤ j := by
  rcases Nat.lt_or_ge j i0 with hh | hh
  · exact absurd (hF.2.1 j hh) h
  · exact hh

/-- append within the capacity, as one step of a region that draws its order -/
theorem step_append_fits {P : Program} (w : World) {ops : Array Oper} {o : Oper} {a : Act} {K : Act → World → Prop} {Q : Exit → Act → World → Prop} {E : Prop}
    (hg : o.guard = none) (s x : Operand) (t : TypeId) (hop : o.op = Op.call { callee := Callee.builtin Builtin.append, args := #[s, x], argTypes := #[t, t] })
    (base : Nat) (e : TypeId) (i : TypeInfo) (size : Nat) (h1 : P.underlying t = some (.slice e)) (h2 : P.info? e = some i) (h4 : i.size = size)
    (g k cap : Nat) (xs : List Value) (hs : a.eval s = .slice (some ⟨g, 0, none⟩) k cap) (hown : w.ownsRow base e size (.slice (some ⟨g, 0, none⟩) k cap) k xs) (ad : Addr) (m c : Nat) (news : List Value) (hx : a.eval x = .slice (some ad) m c) (hn : news.length = m * size)
    (hc : ∀ j u, news[j]? = some u → w.cell? (ad.add j) = some u) (h1c : ∀ u ∈ news, u.oneCell' = true) (b1 : k + m ≤ cap)
    (hK : ∀ w', w'.ownsRow base e size (.slice (some ⟨g, 0, none⟩) (k + m) cap) (k + m) (xs ++ news) → w.grownBy w' (some g) → K (a.put o.dst (.slice (some ⟨g, 0, none⟩) (k + m) cap)) w') :
    if Region.wanted o (yielded ops a.tmps) = true then Oper.wp P o a w K Q else E := by
  have hw : Region.wanted o (yielded ops a.tmps) = true := by simp [Region.wanted, hg]
  rw [if_pos hw]
  obtain ⟨w', hrun, r1, r2⟩ := run_append_fits (P := P) w base t o.type e i size h1 h2 h4 g k cap xs hown ad m c news hn hc h1c b1
  unfold Oper.wp
  simp [execOp, hop, resolve, invoke, builtin, hs, hx, hrun, Result.andThen]
  exact hK w' r1 r2
end Go.Proofs.Ybulkdsw
