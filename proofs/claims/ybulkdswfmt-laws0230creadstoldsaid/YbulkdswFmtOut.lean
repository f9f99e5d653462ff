/-
  Seat b0230aF: what readResponse (13) answers, in one word.
-/
import Derived.Test.YbulkdswFmtResp
namespace Go.Proofs.YbulkdswFmt
open Go.Extern.Stop Go.Stop Go.Extern Go.RowKit

abbrev zeroH : Value := .agg #[.int .i32 0, .int .i32 0, .int .i32 0, .int .i32 0]
abbrev hdrOf (i0 i1 i2 i3 : Int) : Value := .agg #[.int .i32 i0, .int .i32 i1, .int .i32 i2, .int .i32 i3]
abbrev err71 (a : Addr) : Value := .iface 71 (.pointer (some a))

/-- the five answers -/
def Ans (n : Nat) (i0 i1 i2 i3 q o : Int) (ea ua : Addr) (zs : List Value) (hdr got er : Value) (k : Nat) (w' : World) : Prop :=
  (n = 0 ∧ hdr = zeroH ∧ got = .slice none 0 0 ∧ er = err71 ea ∧ k = 0) ∨
  (0 < n ∧ n < 16 ∧ hdr = zeroH ∧ got = .slice none 0 0 ∧ er = err71 ua ∧ k = n) ∨
  (16 ≤ n ∧ (i0 < 16 ∨ 48000000 < i0 ∨ (16 ≤ i0 ∧ i0 ≤ 48000000 ∧ ¬ i3 = o) ∨ (16 ≤ i0 ∧ i0 ≤ 48000000 ∧ i3 = o ∧ ¬ i2 = q)) ∧ hdr = hdrOf i0 i1 i2 i3 ∧ got = .slice none 0 0 ∧ (∃ a, er = err71 a) ∧ k = 16) ∨
  (16 ≤ n ∧ 16 ≤ i0 ∧ i0 ≤ 48000000 ∧ i3 = o ∧ i2 = q ∧ (n : Int) < i0 ∧ hdr = hdrOf i0 i1 i2 i3 ∧ got = .slice none 0 0 ∧ er = err71 ua ∧ k = n) ∨
  (16 ≤ n ∧ 16 ≤ i0 ∧ i0 ≤ 48000000 ∧ i3 = o ∧ i2 = q ∧ i0 ≤ (n : Int) ∧ ∃ (g cap N : Nat) (cur : List Value), (N : Int) + 16 = i0 ∧ hdr = hdrOf i0 i1 i2 i3 ∧ got = .slice (some ⟨g, 0, none⟩) N cap ∧ er = .nilIface ∧ k = 16 + N ∧
    w'.heap[g]? = some (.cells cur.toArray 5 (0, 0)) ∧ cur.take N = (zs.drop 16).take N ∧ N ≤ cap ∧ cur.length = cap)
def RespOut (w : World) (rb sb n c : Nat) (i0 i1 i2 i3 q o : Int) (ea ua : Addr) (zs : List Value) (e : Ending) (w' : World) : Prop :=
  ∃ (hdr got er : Value) (k : Nat), e = .returned (.tuple #[hdr, got, er]) ∧ w'.heap[rb]? = some (.cells #[.slice (some ⟨sb, 0, none⟩) n c, .int .i64 (k : Int)] 43 (0, 0)) ∧ Kept [rb] w w' ∧ Ans n i0 i1 i2 i3 q o ea ua zs hdr got er k w'

theorem resp_any (F : Interp) (rb sb n c : Nat) (v0 v1 v2 v3 : Nat) (i0 i1 i2 i3 q o : Int) (ea ua : Addr) (zs : List Value) (w : World)
    (hbox : w.heap[rb]? = some (.cells #[.slice (some ⟨sb, 0, none⟩) n c, .int .i64 ((0 : Nat) : Int)] 43 (0, 0))) (hn : n ≤ c) (hc : c ≤ 2000)
    (hz : w.heap[sb]? = some (.cells zs.toArray 5 (0, 0))) (hone : ∀ u ∈ zs, u.oneCell' = true) (hzl : zs.length = c) (hzz : zs.take 16 = head16 v0 v1 v2 v3) (hv0 : v0 < 4294967296) (hv1 : v1 < 4294967296) (hv2 : v2 < 4294967296) (hv3 : v3 < 4294967296)
    (he0 : IntKind.i32.wrap (v0 : Int) = i0) (he1 : IntKind.i32.wrap (v1 : Int) = i1) (he2 : IntKind.i32.wrap (v2 : Int) = i2) (he3 : IntKind.i32.wrap (v3 : Int) = i3) (hF : F.answers w.tape)
    (hev : w.cell? ⟨1, 0, none⟩ = some (err71 ea)) (huv : w.cell? ⟨2, 0, none⟩ = some (err71 ua)) (hlow : 2 < rb) (hsr : sb ≠ rb) :
    Calls Ybaf.prog 13 #[.iface 41 (.pointer (some ⟨rb, 0, none⟩)), .int .i32 q, .int .i32 o] w (RespOut w rb sb n c i0 i1 i2 i3 q o ea ua zs) := by
  have hrb := lt_box hbox
  have hsb := lt_box hz
  have hzz0 : (zs.drop 0).take 16 = head16 v0 v1 v2 v3 := by simpa using hzz
  have B := fun (W : World) (hW : Kept [] w W) => (hW.block rb hrb (by simp)).trans hbox
  have Z := fun (W : World) (hW : Kept [] w W) => (hW.block sb hsb (by simp)).trans hz
  have T := fun (W : World) (hW : Kept [] w W) => (show F.answers W.tape by rw [hW.tape]; exact hF)
  have E1 := fun (W : World) (hW : Kept [] w W) => (hW.cell (p := ⟨1, 0, none⟩) (by show 1 < w.heap.size; omega) (by simp)).trans hev
  have E2 := fun (W : World) (hW : Kept [] w W) => (hW.cell (p := ⟨2, 0, none⟩) (by show 2 < w.heap.size; omega) (by simp)).trans huv
  have Zr := fun (W : World) (hW : Kept [rb] w W) => (hW.block sb hsb (by simpa using hsr)).trans hz
  have E1r := fun (W : World) (hW : Kept [rb] w W) => (hW.cell (p := ⟨1, 0, none⟩) (by show 1 < w.heap.size; omega) (by simp; omega)).trans hev
  have E2r := fun (W : World) (hW : Kept [rb] w W) => (hW.cell (p := ⟨2, 0, none⟩) (by show 2 < w.heap.size; omega) (by simp; omega)).trans huv
  rcases Nat.eq_zero_or_pos n with h0 | h0
  · refine (resp_refused rb q o 0 0 0 0 (fun a => a = ea) (some (.cells #[.slice (some ⟨sb, 0, none⟩) n c, .int .i64 ((0 : Nat) : Int)] 43 (0, 0))) w hrb fun W hW => ?_).mono ?_
    · refine (header_none rb sb n c 0 ea W (B W hW) (by omega) (E1 W hW) (by have := hW.size; omega)).mono ?_
      rintro e w' ⟨rfl, hk⟩
      exact ⟨⟨ea, rfl, rfl⟩, (hk.block rb (by have := hW.size; omega) (by simp)).trans (B W hW), (Kept.refl _ _).then hk (by simp)⟩
    · rintro e w' ⟨⟨a, rfl, rfl⟩, hx, hk⟩
      exact ⟨_, _, _, 0, rfl, hx, hk, .inl ⟨h0, rfl, rfl, rfl, rfl⟩⟩
  · by_cases h16 : n < 16
    · refine (resp_refused rb q o 0 0 0 0 (fun a => a = ua) (some (.cells #[.slice (some ⟨sb, 0, none⟩) n c, .int .i64 (n : Int)] 43 (0, 0))) w hrb fun W hW => ?_).mono ?_
      · refine (header_part rb sb n c 0 ea ua zs W (B W hW) h0 (by omega) hn hc (Z W hW) hone hzl (E1 W hW) (E2 W hW) hlow).mono ?_
        rintro e w' ⟨rfl, hx, hk⟩
        exact ⟨⟨ua, rfl, rfl⟩, hx, hk⟩
      · rintro e w' ⟨⟨a, rfl, rfl⟩, hx, hk⟩
        exact ⟨_, _, _, n, rfl, hx, hk, .inr (.inl ⟨h0, h16, rfl, rfl, rfl, rfl⟩)⟩
    · have hk16 : 0 + 16 ≤ n := by omega
      by_cases hs : i0 < 16
      · refine (resp_refused rb q o i0 i1 i2 i3 (fun _ => True) (some (.cells #[.slice (some ⟨sb, 0, none⟩) n c, .int .i64 ((0 + 16 : Nat) : Int)] 43 (0, 0))) w hrb fun W hW => ?_).mono ?_
        · refine (header_small F rb sb n c 0 v0 v1 v2 v3 i0 i1 i2 i3 zs W (B W hW) hk16 hn hc (Z W hW) hone hzl hzz0 hv0 hv1 hv2 hv3 he0 he1 he2 he3 (T W hW) hs).mono ?_
          rintro e w' ⟨⟨a, rfl⟩, hx, hk⟩
          exact ⟨⟨a, rfl, trivial⟩, hx, hk⟩
        · rintro e w' ⟨⟨a, rfl, _⟩, hx, hk⟩
          exact ⟨_, _, _, 16, rfl, hx, hk, .inr (.inr (.inl ⟨by omega, .inl hs, rfl, rfl, ⟨a, rfl⟩, rfl⟩))⟩
      · by_cases hb : 48000000 < i0
        · refine (resp_refused rb q o i0 i1 i2 i3 (fun _ => True) (some (.cells #[.slice (some ⟨sb, 0, none⟩) n c, .int .i64 ((0 + 16 : Nat) : Int)] 43 (0, 0))) w hrb fun W hW => ?_).mono ?_
          · refine (header_big F rb sb n c 0 v0 v1 v2 v3 i0 i1 i2 i3 zs W (B W hW) hk16 hn hc (Z W hW) hone hzl hzz0 hv0 hv1 hv2 hv3 he0 he1 he2 he3 (T W hW) hb).mono ?_
            rintro e w' ⟨⟨a, rfl⟩, hx, hk⟩
            exact ⟨⟨a, rfl, trivial⟩, hx, hk⟩
          · rintro e w' ⟨⟨a, rfl, _⟩, hx, hk⟩
            exact ⟨_, _, _, 16, rfl, hx, hk, .inr (.inr (.inl ⟨by omega, .inr (.inl hb), rfl, rfl, ⟨a, rfl⟩, rfl⟩))⟩
        · have HO := fun (W : World) (hW : Kept [] w W) => header_ok rb sb n c 0 v0 v1 v2 v3 i0 i1 i2 i3 zs W (B W hW) hk16 hn hc (Z W hW) hone hzl hzz0 hv0 hv1 hv2 hv3 he0 he1 he2 he3 (by omega) (by omega)
          by_cases hop : i3 = o
          · by_cases hrq : i2 = q
            · obtain ⟨N, hN⟩ : ∃ N : Nat, (N : Int) + 16 = i0 := ⟨(i0 - 16).toNat, by omega⟩
              subst hN
              by_cases hs : n - 16 < N
              · refine (resp_body_short (fun a => a = ua) rb q o _ i1 i2 i3 _ w hrb hop hrq (some (.cells #[.slice (some ⟨sb, 0, none⟩) n c, .int .i64 (n : Int)] 43 (0, 0))) (fun W hW hX => ?_) HO).mono ?_
                · refine (body_short rb sb n c (0 + 16) N ea ua i1 i2 i3 zs W hX (Zr W hW) hone hzl hk16 hn hc (by omega) (E1r W hW) (E2r W hW) hlow (by omega)).mono ?_
                  rintro e w' ⟨rfl, hx, hk⟩
                  exact ⟨⟨ua, rfl, rfl⟩, hx, hk⟩
                · rintro e w' ⟨⟨a, rfl, rfl⟩, hx, hk⟩
                  exact ⟨_, _, _, n, rfl, hx, hk, .inr (.inr (.inr (.inl ⟨by omega, by omega, by omega, hop, hrq, by omega, rfl, rfl, rfl, rfl⟩)))⟩
              · refine (resp_body_full rb q o _ i1 i2 i3 _ w hrb hop hrq N (fun cap cur => cur.take N = (zs.drop 16).take N ∧ N ≤ cap ∧ cur.length = cap) (some (.cells #[.slice (some ⟨sb, 0, none⟩) n c, .int .i64 ((0 + 16 + N : Nat) : Int)] 43 (0, 0))) (fun W hW hX => ?_) HO).mono ?_
                · refine (body_full rb sb n c (0 + 16) N ea i1 i2 i3 zs W hX (Zr W hW) hone hzl hk16 hn hc (by omega) (E1r W hW) (by omega) (by omega)).mono ?_
                  rintro e w' ⟨g, cap, cur, rfl, hg, ht, hcap, hcl, hx, hk⟩
                  exact ⟨⟨g, cap, cur.toArray, rfl, hg, ht, hcap, hcl⟩, hx, hk⟩
                · rintro e w' ⟨⟨g, cap, cs, rfl, hg, ht, hcap, hcl⟩, hx, hk⟩
                  exact ⟨_, _, _, 16 + N, rfl, by simpa using hx, hk, .inr (.inr (.inr (.inr ⟨by omega, by omega, by omega, hop, hrq, by omega, g, cap, N, cs.toList, rfl, rfl, rfl, rfl, rfl, by simpa using hg, ht, hcap, hcl⟩)))⟩
            · refine (resp_req F rb q o i0 i1 i2 i3 _ w hrb hF hop hrq HO).mono ?_
              rintro e w' ⟨⟨a, rfl⟩, hx, hk⟩
              exact ⟨_, _, _, 16, rfl, hx, hk, .inr (.inr (.inl ⟨by omega, .inr (.inr (.inr ⟨by omega, by omega, hop, hrq⟩)), rfl, rfl, ⟨a, rfl⟩, rfl⟩))⟩
          · refine (resp_op F rb q o i0 i1 i2 i3 _ w hrb hF hop HO).mono ?_
            rintro e w' ⟨⟨a, rfl⟩, hx, hk⟩
            exact ⟨_, _, _, 16, rfl, hx, hk, .inr (.inr (.inl ⟨by omega, .inr (.inr (.inl ⟨by omega, by omega, hop⟩)), rfl, rfl, ⟨a, rfl⟩, rfl⟩))⟩
end Go.Proofs.YbulkdswFmt
