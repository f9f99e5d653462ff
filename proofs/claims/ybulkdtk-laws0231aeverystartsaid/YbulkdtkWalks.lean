/-
  The shared walks of seat b0231a: digitsEnd (8), exponentEnd (5), zzs0231amodel (6), zzs0231ashape (7).
-/
import Derived.Test.YbulkdtkProg
import Derived.WalkKit
namespace Go.Proofs.Ybulkdtk
open Go.RowKit

/-- byte m of s is a decimal digit -/
def IsDig (s : ByteArray) (m : Nat) : Prop := ∃ h : m < s.size, 48 ≤ (s[m].toNat : Int) ∧ (s[m].toNat : Int) ≤ 57
/-- from i up to (not with) k all bytes are digits -/
def Digs (s : ByteArray) (i k : Nat) : Prop := i ≤ k ∧ k ≤ s.size ∧ ∀ m, i ≤ m → m < k → IsDig s m
/-- k is the end of the run of digits from i on -/
def DEnd (s : ByteArray) (i k : Nat) : Prop := Digs s i k ∧ ¬ IsDig s k

theorem Digs.start {s : ByteArray} {i : Nat} (h : i ≤ s.size) : Digs s i i := ⟨Nat.le_refl _, h, fun m a b => by omega⟩
theorem Digs.step {s : ByteArray} {i k : Nat} (h : Digs s i k) (hk : k < s.size) (a : 48 ≤ (s[k].toNat : Int)) (b : (s[k].toNat : Int) ≤ 57) : Digs s i (k + 1) :=
  ⟨by have := h.1; omega, by omega, fun m c d => by
    by_cases e : m = k
    · subst e; exact ⟨hk, a, b⟩
    · exact h.2.2 m c (by omega)⟩
theorem DEnd.out {s : ByteArray} {i k : Nat} (h : Digs s i k) (hk : ¬ k < s.size) : DEnd s i k := ⟨h, fun ⟨a, _⟩ => hk a⟩
theorem DEnd.non {s : ByteArray} {i k : Nat} (h : Digs s i k) (hk : k < s.size) (a : ¬ (48 ≤ (s[k].toNat : Int) ∧ (s[k].toNat : Int) ≤ 57)) : DEnd s i k := ⟨h, fun ⟨_, b⟩ => a b⟩
theorem DEnd.unique {s : ByteArray} {i k l : Nat} (h : DEnd s i k) (g : DEnd s i l) : k = l := by
  rcases Nat.lt_trichotomy k l with c | c | c
  · exact absurd (g.1.2.2 k h.1.1 c) h.2
  · exact c
  · exact absurd (h.1.2.2 l g.1.1 c) g.2

theorem ret_int {k : IntKind} {a b : Int} (h : a = b) : Ending.returned (.int k a) = .returned (.int k b) := by rw [h]

set_option maxHeartbeats 400000 in
theorem digits_any (s : ByteArray) (i : Nat) (w : World) (hs : s.size ≤ maxLen) (hi : i ≤ s.size) :
    Calls Yba.prog 8 #[.string s, .int .i64 i] w fun e w' => ∃ k : Nat, e = .returned (.int .i64 k) ∧ DEnd s i k ∧ w = w' := by
  unfold maxLen at hs
  go_enter Yba.func8, Yba.ntmps8
  go_wp2
  go_loop [1] (fun t => ∃ k : Nat, k ≤ s.size ∧ t = .int .i64 k ∧ Digs s i k) (fun t => s.size - (intOf t).toNat)
  case atStart => exact ⟨i, hi, rfl, Digs.start hi⟩
  case round =>
    obtain ⟨k, hk, rfl, hd⟩ := hrel
    by_cases hlt : k < s.size
    · go_wp2
      · go_round
        case rel => exact ⟨k + 1, by omega, by go_num, hd.step hlt ‹_› ‹_›⟩
        case measure => simp [intOf]; omega
      · go_ret
        exact ⟨k, rfl, DEnd.non hd hlt (by omega), rfl⟩
      · go_ret
        exact ⟨k, rfl, DEnd.non hd hlt (by omega), rfl⟩
    · go_wp2
      go_ret
      exact ⟨k, rfl, DEnd.out hd hlt, rfl⟩

/-- byte i of s is an 'e' or an 'E' -/
def IsE (s : ByteArray) (i : Nat) : Prop := ∃ h : i < s.size, (s[i].toNat : Int) = 101 ∨ (s[i].toNat : Int) = 69
/-- byte j of s is a '+' or a '-' -/
def IsSg (s : ByteArray) (j : Nat) : Prop := ∃ h : j < s.size, (s[j].toNat : Int) = 43 ∨ (s[j].toNat : Int) = 45
/-- what both functions give at (s, i) -/
def ExpR (s : ByteArray) (i r : Nat) : Prop :=
  (¬ IsE s i ∧ r = i) ∨ (IsE s i ∧ ∃ j k, ((IsSg s (i + 1) ∧ j = i + 2) ∨ (¬ IsSg s (i + 1) ∧ j = i + 1)) ∧ DEnd s j k ∧ ((k = j ∧ r = i) ∨ (j < k ∧ r = k)))

theorem ExpR.unique {s : ByteArray} {i r q : Nat} (h : ExpR s i r) (g : ExpR s i q) : r = q := by
  rcases h with ⟨a, rfl⟩ | ⟨a, j, k, hj, hk, hr⟩
  · rcases g with ⟨_, rfl⟩ | ⟨b, _⟩
    · rfl
    · exact absurd b a
  · rcases g with ⟨b, _⟩ | ⟨_, j', k', hj', hk', hr'⟩
    · exact absurd a b
    · have e : j = j' := by
        rcases hj with ⟨x, rfl⟩ | ⟨x, rfl⟩ <;> rcases hj' with ⟨y, rfl⟩ | ⟨y, rfl⟩
        · rfl
        · exact absurd x y
        · exact absurd y x
        · rfl
      subst e
      have e := hk.unique hk'
      subst e
      omega

theorem digits_int (s : ByteArray) (n : Int) (w : World) (hs : s.size ≤ maxLen) (h0 : 0 ≤ n) (h1 : n ≤ s.size) :
    Calls Yba.prog 8 #[.string s, .int .i64 n] w fun e w' => ∃ k : Nat, e = .returned (.int .i64 k) ∧ DEnd s n.toNat k ∧ w = w' := by
  obtain ⟨i, rfl⟩ := Int.eq_ofNat_of_zero_le h0
  rw [Int.toNat_natCast]
  exact digits_any s i w hs (by omega)

theorem sg_yes {s : ByteArray} {m : Nat} (h : m < s.size) (a : (s[m].toNat : Int) = 43 ∨ (s[m].toNat : Int) = 45) : IsSg s m := ⟨h, a⟩
theorem sg_no {s : ByteArray} {m : Nat} (h : m < s.size) (a : ¬ ((s[m].toNat : Int) = 43 ∨ (s[m].toNat : Int) = 45)) : ¬ IsSg s m := fun ⟨_, b⟩ => a b
theorem sg_out {s : ByteArray} {m : Nat} (h : ¬ m < s.size) : ¬ IsSg s m := fun ⟨b, _⟩ => h b

theorem exp_k {s : ByteArray} {i k : Nat} (h1 : i < s.size) (hE : (s[i].toNat : Int) = 101 ∨ (s[i].toNat : Int) = 69) {x : Int} (hk : DEnd s x.toNat k)
    (hx : (IsSg s (i + 1) ∧ x = i + 2) ∨ (¬ IsSg s (i + 1) ∧ x = i + 1)) (hv : x < k) : ExpR s i k := by
  refine .inr ⟨⟨h1, hE⟩, x.toNat, k, ?_, hk, by omega⟩
  rcases hx with ⟨a, b⟩ | ⟨a, b⟩
  · exact .inl ⟨a, by omega⟩
  · exact .inr ⟨a, by omega⟩
theorem exp_i {s : ByteArray} {i k : Nat} (h1 : i < s.size) (hE : (s[i].toNat : Int) = 101 ∨ (s[i].toNat : Int) = 69) {x : Int} (hk : DEnd s x.toNat k)
    (hx : (IsSg s (i + 1) ∧ x = i + 2) ∨ (¬ IsSg s (i + 1) ∧ x = i + 1)) (hv : k ≤ x) : ExpR s i i := by
  have hl := hk.1.1
  refine .inr ⟨⟨h1, hE⟩, x.toNat, k, ?_, hk, by omega⟩
  rcases hx with ⟨a, b⟩ | ⟨a, b⟩
  · exact .inl ⟨a, by omega⟩
  · exact .inr ⟨a, by omega⟩
theorem exp_non {s : ByteArray} {i : Nat} (h1 : i < s.size) (hE : ¬ ((s[i].toNat : Int) = 101 ∨ (s[i].toNat : Int) = 69)) : ExpR s i i :=
  .inl ⟨fun ⟨_, b⟩ => hE b, rfl⟩
theorem exp_end {s : ByteArray} {i : Nat} (h1 : ¬ i < s.size) : ExpR s i i := .inl ⟨fun ⟨b, _⟩ => h1 b, rfl⟩

set_option maxHeartbeats 1000000 in
theorem exp_any (s : ByteArray) (i : Nat) (w : World) (hs : s.size ≤ maxLen) (hi : i ≤ s.size) :
    Calls Yba.prog 5 #[.string s, .int .i64 i] w fun e w' => ∃ r : Nat, e = .returned (.int .i64 r) ∧ ExpR s i r ∧ w = w' := by
  have hs' := hs
  unfold maxLen at hs
  by_cases h0 : i = s.size
  · subst h0
    go_enter Yba.func5, Yba.ntmps5
    go_wp2
    go_ret
    exact ⟨_, rfl, exp_end (by omega), rfl⟩
  · have h1 : i < s.size := by omega
    have h2 : ((i : Int) == (s.size : Int)) = false := beq_eq_false_iff_ne.2 (by omega)
    clear h0
    go_enter Yba.func5, Yba.ntmps5
    go_wp2_with (go_at_call 8; refine (digits_int s _ _ hs' (by omega) (by omega)).mono ?_; rintro e w' ⟨k, rfl, hk, rfl⟩)
    all_goals
      go_ret
      try simp only [bne_iff_ne, ne_eq, bne_eq_false_iff_eq, beq_iff_eq, beq_eq_false_iff_ne] at *
    all_goals first
      | (refine ⟨i, rfl, exp_non h1 ?_, by trivial⟩; omega)
      | (refine ⟨k, rfl, exp_k h1 ?_ hk (.inl ⟨sg_yes ?_ ?_, ?_⟩) ?_, by trivial⟩ <;> omega)
      | (refine ⟨k, rfl, exp_k h1 ?_ hk (.inr ⟨sg_no ?_ ?_, ?_⟩) ?_, by trivial⟩ <;> omega)
      | (refine ⟨k, rfl, exp_k h1 ?_ hk (.inr ⟨sg_out ?_, ?_⟩) ?_, by trivial⟩ <;> omega)
      | (refine ⟨i, rfl, exp_i h1 ?_ hk (.inl ⟨sg_yes ?_ ?_, ?_⟩) ?_, by trivial⟩ <;> omega)
      | (refine ⟨i, rfl, exp_i h1 ?_ hk (.inr ⟨sg_no ?_ ?_, ?_⟩) ?_, by trivial⟩ <;> omega)
      | (refine ⟨i, rfl, exp_i h1 ?_ hk (.inr ⟨sg_out ?_, ?_⟩) ?_, by trivial⟩ <;> omega)

/-- j is where the digits of the exponent begin -/
def SgJ (s : ByteArray) (i j : Nat) : Prop := (IsSg s (i + 1) ∧ j = i + 2) ∨ (¬ IsSg s (i + 1) ∧ j = i + 1)
theorem sgj_yes {s : ByteArray} {i : Nat} (h : i + 1 < s.size) (a : (s[i + 1].toNat : Int) = 43 ∨ (s[i + 1].toNat : Int) = 45) : SgJ s i (i + 2) := .inl ⟨⟨h, a⟩, rfl⟩
theorem sgj_no {s : ByteArray} {i : Nat} (h : i + 1 < s.size) (a : ¬ ((s[i + 1].toNat : Int) = 43 ∨ (s[i + 1].toNat : Int) = 45)) : SgJ s i (i + 1) := .inr ⟨fun ⟨_, b⟩ => a b, rfl⟩
theorem sgj_out {s : ByteArray} {i : Nat} (h : ¬ i + 1 < s.size) : SgJ s i (i + 1) := .inr ⟨fun ⟨b, _⟩ => h b, rfl⟩
theorem exp_jk {s : ByteArray} {i j k : Nat} (h1 : i < s.size) (hE : (s[i].toNat : Int) = 101 ∨ (s[i].toNat : Int) = 69) (hj : SgJ s i j) (hk : DEnd s j k) (hv : j ≠ k) : ExpR s i k := by
  have := hk.1.1
  exact .inr ⟨⟨h1, hE⟩, j, k, hj, hk, by omega⟩
theorem exp_ji {s : ByteArray} {i j k : Nat} (h1 : i < s.size) (hE : (s[i].toNat : Int) = 101 ∨ (s[i].toNat : Int) = 69) (hj : SgJ s i j) (hk : DEnd s j k) (hv : j = k) : ExpR s i i :=
  .inr ⟨⟨h1, hE⟩, j, k, hj, hk, by omega⟩

theorem ne_t {a b : Int} (h : a ≠ b) : (a != b) = true := by simpa using h
theorem ne_f {a b : Int} (h : a = b) : (a != b) = false := by simpa using h
theorem eq_t {a b : Int} (h : a = b) : (a == b) = true := by simpa using h
theorem eq_f {a b : Int} (h : a ≠ b) : (a == b) = false := by simpa using h

set_option maxHeartbeats 1000000 in
theorem model_sg (s : ByteArray) (i : Nat) (w : World) (hs : s.size ≤ maxLen) (h1 : i < s.size) (hJ : SgJ s i (i + 2))
    (hE : ((s[i].toNat : Int) != 101) = false ∨ (((s[i].toNat : Int) != 101) = true ∧ ((s[i].toNat : Int) != 69) = false)) (HE : Hid ((s[i].toNat : Int) = 101 ∨ (s[i].toNat : Int) = 69)) (h2 : i + 1 < s.size) (hS : ((s[i + 1].toNat : Int) == 43) = true ∨ (((s[i + 1].toNat : Int) == 43) = false ∧ ((s[i + 1].toNat : Int) == 45) = true)) :
    Calls Yba.prog 6 #[.string s, .int .i64 i] w fun e w' => ∃ r : Nat, e = .returned (.int .i64 r) ∧ ExpR s i r ∧ w = w' := by
  unfold maxLen at hs
  rcases hE with hE | ⟨hE, hE'⟩
  all_goals
    rcases hS with hS | ⟨hS, hS'⟩
    all_goals
      go_enter Yba.func6, Yba.ntmps6
      go_wp2
      go_loop [7] (fun t => ∃ k : Nat, k ≤ s.size ∧ t = .int .i64 k ∧ Digs s (i + 2) k) (fun t => s.size - (intOf t).toNat)
      case atStart => exact ⟨i + 2, by omega, by go_num, Digs.start (by omega)⟩
      case round =>
        obtain ⟨k, hk, rfl, hd⟩ := hrel
        by_cases hlt : k < s.size
        · go_wp2
          · go_round
            case rel => exact ⟨k + 1, by omega, by go_num, hd.step hlt ‹_› ‹_›⟩
            case measure => simp [intOf]; omega
          all_goals
            have hn : ¬ (48 ≤ (s[k].toNat : Int) ∧ (s[k].toNat : Int) ≤ 57) := by omega
            go_ret
            first
              | (refine ⟨k, rfl, exp_jk h1 HE.out hJ (DEnd.non hd hlt hn) ?_, rfl⟩; simp only [beq_eq_false_iff_ne, ne_eq] at *; omega)
              | (refine ⟨i, rfl, exp_ji h1 HE.out hJ (DEnd.non hd hlt hn) ?_, rfl⟩; simp only [beq_iff_eq] at *; omega)
        · go_wp2
          all_goals
            go_ret
            first
              | (refine ⟨k, rfl, exp_jk h1 HE.out hJ (DEnd.out hd hlt) ?_, rfl⟩; simp only [beq_eq_false_iff_ne, ne_eq] at *; omega)
              | (refine ⟨i, rfl, exp_ji h1 HE.out hJ (DEnd.out hd hlt) ?_, rfl⟩; simp only [beq_iff_eq] at *; omega)
set_option maxHeartbeats 1000000 in
theorem model_ns (s : ByteArray) (i : Nat) (w : World) (hs : s.size ≤ maxLen) (h1 : i < s.size) (hJ : SgJ s i (i + 1))
    (hE : ((s[i].toNat : Int) != 101) = false ∨ (((s[i].toNat : Int) != 101) = true ∧ ((s[i].toNat : Int) != 69) = false)) (HE : Hid ((s[i].toNat : Int) = 101 ∨ (s[i].toNat : Int) = 69)) (h2 : i + 1 < s.size) (hS : ((s[i + 1].toNat : Int) == 43) = false ∧ ((s[i + 1].toNat : Int) == 45) = false) :
    Calls Yba.prog 6 #[.string s, .int .i64 i] w fun e w' => ∃ r : Nat, e = .returned (.int .i64 r) ∧ ExpR s i r ∧ w = w' := by
  unfold maxLen at hs
  rcases hE with hE | ⟨hE, hE'⟩
  all_goals
    obtain ⟨hS, hS'⟩ := hS
    all_goals
      go_enter Yba.func6, Yba.ntmps6
      go_wp2
      go_loop [7] (fun t => ∃ k : Nat, k ≤ s.size ∧ t = .int .i64 k ∧ Digs s (i + 1) k) (fun t => s.size - (intOf t).toNat)
      case atStart => exact ⟨i + 1, by omega, by go_num, Digs.start (by omega)⟩
      case round =>
        obtain ⟨k, hk, rfl, hd⟩ := hrel
        by_cases hlt : k < s.size
        · go_wp2
          · go_round
            case rel => exact ⟨k + 1, by omega, by go_num, hd.step hlt ‹_› ‹_›⟩
            case measure => simp [intOf]; omega
          all_goals
            have hn : ¬ (48 ≤ (s[k].toNat : Int) ∧ (s[k].toNat : Int) ≤ 57) := by omega
            go_ret
            first
              | (refine ⟨k, rfl, exp_jk h1 HE.out hJ (DEnd.non hd hlt hn) ?_, rfl⟩; simp only [beq_eq_false_iff_ne, ne_eq] at *; omega)
              | (refine ⟨i, rfl, exp_ji h1 HE.out hJ (DEnd.non hd hlt hn) ?_, rfl⟩; simp only [beq_iff_eq] at *; omega)
        · go_wp2
          all_goals
            go_ret
            first
              | (refine ⟨k, rfl, exp_jk h1 HE.out hJ (DEnd.out hd hlt) ?_, rfl⟩; simp only [beq_eq_false_iff_ne, ne_eq] at *; omega)
              | (refine ⟨i, rfl, exp_ji h1 HE.out hJ (DEnd.out hd hlt) ?_, rfl⟩; simp only [beq_iff_eq] at *; omega)
set_option maxHeartbeats 1000000 in
theorem model_out (s : ByteArray) (i : Nat) (w : World) (hs : s.size ≤ maxLen) (h1 : i < s.size) (hJ : SgJ s i (i + 1))
    (hE : ((s[i].toNat : Int) != 101) = false ∨ (((s[i].toNat : Int) != 101) = true ∧ ((s[i].toNat : Int) != 69) = false)) (HE : Hid ((s[i].toNat : Int) = 101 ∨ (s[i].toNat : Int) = 69)) (h2 : ¬ i + 1 < s.size) :
    Calls Yba.prog 6 #[.string s, .int .i64 i] w fun e w' => ∃ r : Nat, e = .returned (.int .i64 r) ∧ ExpR s i r ∧ w = w' := by
  unfold maxLen at hs
  rcases hE with hE | ⟨hE, hE'⟩
  all_goals
    skip
    all_goals
      go_enter Yba.func6, Yba.ntmps6
      go_wp2
      go_loop [7] (fun t => ∃ k : Nat, k ≤ s.size ∧ t = .int .i64 k ∧ Digs s (i + 1) k) (fun t => s.size - (intOf t).toNat)
      case atStart => exact ⟨i + 1, by omega, by go_num, Digs.start (by omega)⟩
      case round =>
        obtain ⟨k, hk, rfl, hd⟩ := hrel
        by_cases hlt : k < s.size
        · go_wp2
          · go_round
            case rel => exact ⟨k + 1, by omega, by go_num, hd.step hlt ‹_› ‹_›⟩
            case measure => simp [intOf]; omega
          all_goals
            have hn : ¬ (48 ≤ (s[k].toNat : Int) ∧ (s[k].toNat : Int) ≤ 57) := by omega
            go_ret
            first
              | (refine ⟨k, rfl, exp_jk h1 HE.out hJ (DEnd.non hd hlt hn) ?_, rfl⟩; simp only [beq_eq_false_iff_ne, ne_eq] at *; omega)
              | (refine ⟨i, rfl, exp_ji h1 HE.out hJ (DEnd.non hd hlt hn) ?_, rfl⟩; simp only [beq_iff_eq] at *; omega)
        · go_wp2
          all_goals
            go_ret
            first
              | (refine ⟨k, rfl, exp_jk h1 HE.out hJ (DEnd.out hd hlt) ?_, rfl⟩; simp only [beq_eq_false_iff_ne, ne_eq] at *; omega)
              | (refine ⟨i, rfl, exp_ji h1 HE.out hJ (DEnd.out hd hlt) ?_, rfl⟩; simp only [beq_iff_eq] at *; omega)

set_option maxHeartbeats 1000000 in
theorem model_any (s : ByteArray) (i : Nat) (w : World) (hs : s.size ≤ maxLen) (hi : i ≤ s.size) :
    Calls Yba.prog 6 #[.string s, .int .i64 i] w fun e w' => ∃ r : Nat, e = .returned (.int .i64 r) ∧ ExpR s i r ∧ w = w' := by
  by_cases h0 : i = s.size
  · subst h0
    unfold maxLen at hs
    go_enter Yba.func6, Yba.ntmps6
    go_wp2
    go_ret
    exact ⟨_, rfl, exp_end (by omega), rfl⟩
  · have h1 : i < s.size := by omega
    clear h0
    by_cases hE : (s[i].toNat : Int) = 101 ∨ (s[i].toNat : Int) = 69
    · have hb : ((s[i].toNat : Int) != 101) = false ∨ (((s[i].toNat : Int) != 101) = true ∧ ((s[i].toNat : Int) != 69) = false) := by
        by_cases h : (s[i].toNat : Int) = 101
        · exact .inl (ne_f h)
        · exact .inr ⟨ne_t h, ne_f (by omega)⟩
      by_cases h2 : i + 1 < s.size
      · by_cases hS : (s[i + 1].toNat : Int) = 43 ∨ (s[i + 1].toNat : Int) = 45
        · refine model_sg s i w hs h1 (sgj_yes h2 hS) hb hE h2 ?_
          by_cases h : (s[i + 1].toNat : Int) = 43
          · exact .inl (eq_t h)
          · exact .inr ⟨eq_f h, eq_t (by omega)⟩
        · exact model_ns s i w hs h1 (sgj_no h2 hS) hb hE h2 ⟨eq_f (by omega), eq_f (by omega)⟩
      · exact model_out s i w hs h1 (sgj_out h2) hb hE h2
    · have a1 : ((s[i].toNat : Int) != 101) = true := ne_t (by omega)
      have a2 : ((s[i].toNat : Int) != 69) = true := ne_t (by omega)
      have HE : Hid (¬ ((s[i].toNat : Int) = 101 ∨ (s[i].toNat : Int) = 69)) := hE
      clear hE
      unfold maxLen at hs
      go_enter Yba.func6, Yba.ntmps6
      go_wp2
      go_ret
      exact ⟨i, rfl, exp_non h1 HE.out, rfl⟩

theorem ExpR.shape {s : ByteArray} {i r : Nat} (h : ExpR s i r) (hr : r ≠ i) : i + 2 ≤ r ∧ r ≤ s.size ∧ IsE s i ∧ IsDig s (r - 1) ∧ ¬ IsDig s r := by
  rcases h with ⟨_, rfl⟩ | ⟨a, j, k, hj, hk, h⟩
  · exact absurd rfl hr
  · have hlt : j < k ∧ r = k := by omega
    obtain ⟨hlt, rfl⟩ := hlt
    have hj' : i + 1 ≤ j := by rcases hj with ⟨_, rfl⟩ | ⟨_, rfl⟩ <;> omega
    exact ⟨by omega, hk.1.2.1, a, hk.1.2.2 (r - 1) (by omega) (by omega), hk.2⟩
theorem ExpR.le {s : ByteArray} {i r : Nat} (h : ExpR s i r) (hi : i ≤ s.size) : r ≤ s.size := by
  by_cases hr : r = i
  · omega
  · exact (h.shape hr).2.1

set_option maxHeartbeats 1000000 in
theorem shape_core (s : ByteArray) (i q : Nat) (w : World) (hs : s.size ≤ maxLen) (h1 : i < s.size) (hq : q < s.size) (h2 : i + 1 ≤ q)
    (hE : ((s[i].toNat : Int) != 101) = false ∨ (((s[i].toNat : Int) != 101) = true ∧ ((s[i].toNat : Int) != 69) = false))
    (hd1 : 48 ≤ (s[q].toNat : Int)) (hd2 : (s[q].toNat : Int) ≤ 57) (hn : Hid (¬ IsDig s (q + 1))) :
    Calls Yba.prog 7 #[.string s, .int .i64 i, .int .i64 ((q : Int) + 1)] w fun e w' => e = .returned (.bool true) ∧ w = w' := by
  unfold maxLen at hs
  have hne : ((q : Int) + 1 == (i : Int)) = false := eq_f (by omega)
  rcases hE with hE | ⟨hE, hE'⟩
  all_goals
    go_enter Yba.func7, Yba.ntmps7
    go_wp2
    · exact absurd (⟨by omega, by assumption, by assumption⟩ : IsDig s (q + 1)) hn
    all_goals
      go_ret
      exact ⟨rfl, rfl⟩

set_option maxHeartbeats 1000000 in
theorem shape_any (s : ByteArray) (i r : Nat) (w : World) (hs : s.size ≤ maxLen) (hR : ExpR s i r) :
    Calls Yba.prog 7 #[.string s, .int .i64 i, .int .i64 r] w fun e w' => e = .returned (.bool true) ∧ w = w' := by
  by_cases hr : r = i
  · subst hr
    clear hR
    go_enter Yba.func7, Yba.ntmps7
    go_wp2
    go_ret
    exact ⟨rfl, rfl⟩
  · obtain ⟨h1, h2, ⟨h3, h4⟩, h5, h6⟩ := hR.shape hr
    obtain ⟨q, rfl⟩ : ∃ q, r = q + 1 := ⟨r - 1, by omega⟩
    obtain ⟨_, d1, d2⟩ := h5
    refine shape_core s i q w hs h3 (by omega) (by omega) ?_ d1 d2 h6
    by_cases h : (s[i].toNat : Int) = 101
    · exact .inl (ne_f h)
    · exact .inr ⟨ne_t h, ne_f (by omega)⟩
end Go.Proofs.Ybulkdtk
