/- encoding/binary's big-endian reads and writes, at a row that the call owns or at a slice that reads as bytes. -/
import Derived.Test.YthfpfakdchhodaaDoorWords
namespace Go.Proofs.YthfpfakdchhodaaDoor
open Go.ChangeShapes Go.WideShapes Go.ChangeAt Go.RowKit
set_option linter.unusedVariables false

/-- the two bytes of a number below 65536 -/
def hi8 (n : Int) : Value := .int .u8 (n / 256)
def lo8 (n : Int) : Value := .int .u8 (n % 256)
theorem bigL2 (n : Int) (h0 : 0 ≤ n) (h : n < 65536) : cells8 (bigL 2 n.toNat) = [hi8 n, lo8 n] := by
  obtain ⟨m, rfl⟩ := Int.eq_ofNat_of_zero_le h0
  have h1 : m / 256 % 256 = m / 256 := Nat.mod_eq_of_lt (by omega)
  simp [cells8, bigL, hi8, lo8, UInt8.toNat_ofNat', h1]

/-- two zeros behind a row, overwritten by a number -/
theorem put_tail (L : List UInt8) (z y : Value) (x : Int) (m : Nat) (hm : m = L.length) (h0 : 0 ≤ x) (h : x < 65536) : ((cells8 L ++ [z, y]).set m (hi8 x)).set (m + 1) (lo8 x) = cells8 (L ++ bigL 2 x.toNat) := by
  subst hm
  rw [cells8_append, bigL2 x h0 h, List.set_append_right _ _ (by simp [cells8]), List.set_append_right _ _ (by simp [cells8])]
  simp [cells8]

set_option maxRecDepth 100000 in
theorem put16_cells (b off n c : Nat) (x y : Value) (v : Int) (w : World) (hv0 : 0 ≤ v) (hv : v < 65536) (hn : 2 ≤ n) (hb : b < w.heap.size) (hx : w.cell? ⟨b, off, none⟩ = some x) (hy : w.cell? ⟨b, off + 1, none⟩ = some y)
    (fx : w.frozen? ⟨b, off, none⟩ = false) (fy : w.frozen? ⟨b, off + 1, none⟩ = false) :
    Calls Tryd.prog 90 #[.agg #[], .slice (some ⟨b, off, none⟩) n c, .int .u16 v] w fun e w' => e = .returned (.tuple #[]) ∧ ((w.setCell ⟨b, off, none⟩ (hi8 v)).setCell ⟨b, off + 1, none⟩ (lo8 v)).alloc (.cells #[] 166) = w' := by
  go_enter Tryd.func90, Tryd.ntmps90
  go_wp2
  go_end0
  exact ⟨rfl, rfl⟩

/-- PutUint16 into a row of bytes that the call owns, at place off. -/
theorem put16_own (base g off n c N C : Nat) (xs : List Value) (v u : Int) (w : World) (hve : v = u) (hv0 : 0 ≤ u) (hv : u < 65536) (hn : 2 ≤ n) (hown : w.ownsRow base 5 1 (.slice (some ⟨g, 0, none⟩) N C) N xs) (hoff : off + 2 ≤ N) :
    Calls Tryd.prog 90 #[.agg #[], .slice (some ⟨g, off, none⟩) n c, .int .u16 v] w fun e w' => e = .returned (.tuple #[]) ∧ w'.ownsRow base 5 1 (.slice (some ⟨g, 0, none⟩) N C) N ((xs.set off (hi8 u)).set (off + 1) (lo8 u)) ∧ w.grownBy w' (some g) ∧ Below base w w' := by
  subst hve
  obtain ⟨rest, hblk, hxs⟩ := Blk.of_own hown
  have hlt := hown.lt g rfl
  have hC : C ≤ maxLen ∧ (xs ++ rest).length = C := by
    rcases hown.2 with ⟨hv, _⟩ | ⟨g', cap, cur, hv, _, hg, _, hm, hs, ht⟩
    · cases hv
    · injection hv with h1 h2 h3
      injection h1 with h1
      injection h1 with h1
      subst h1 h3
      unfold Blk at hblk
      rw [hg] at hblk
      injection hblk with hblk
      injection hblk with hblk
      exact ⟨hm, by rw [hblk] at hs; simpa using hs⟩
  have hx : w.cell? ⟨g, off, none⟩ = some xs[off] := by rw [hblk.cell, List.getElem?_append_left (by omega)]; exact List.getElem?_eq_getElem _
  have hy : w.cell? ⟨g, off + 1, none⟩ = some xs[off + 1] := by rw [hblk.cell, List.getElem?_append_left (by omega)]; exact List.getElem?_eq_getElem _
  refine (put16_cells g off n c _ _ v w hv0 hv hn hlt.2 hx hy (hblk.frozen _) (hblk.frozen _)).mono ?_
  rintro e w' ⟨rfl, rfl⟩
  have hb2 := ((hblk.set_ off (hi8 v)).set_ (off + 1) (lo8 v)).alloc (.cells #[] 166)
  rw [List.set_append_left _ _ (by omega), List.set_append_left _ _ (by simp; omega)] at hb2
  have hgrown : w.grownBy (((w.setCell ⟨g, off, none⟩ (hi8 v)).setCell ⟨g, off + 1, none⟩ (lo8 v)).alloc (.cells #[] 166)) (some g) :=
    ⟨rfl, rfl, rfl, by simp [World.setCell], fun k hk hne => by
      rw [Below.heap_alloc _ _ _ (by simpa [World.setCell] using hk), Below.heap_setCell _ _ _ _ (fun e => hne (by rw [e])), Below.heap_setCell _ _ _ _ (fun e => hne (by rw [e]))]⟩
  exact ⟨rfl, hb2.to_own hlt.1 (by simpa using hxs) (by simpa using hC.2) hC.1, hgrown, (Below.refl _ _).grown hgrown (by omega) (fun k hk => by injection hk with hk; omega)⟩

/-- the number of the first two bytes -/
def be16 (l : List UInt8) : Nat := bat l 0 * 256 + bat l 1
theorem be16_lt (l : List UInt8) : be16 l < 65536 := by
  have h0 := bat_lt l 0
  have h1 := bat_lt l 1
  unfold be16; omega
theorem be16_big (n : Nat) (h : n < 65536) (r : List UInt8) : be16 (bigL 2 n ++ r) = n := by
  unfold be16 bat bigL bigL bigL
  simp [UInt8.toNat_ofNat']
  omega
theorem or_bytes (x y : Nat) (hx : x < 256) (hy : y < 256) : bits .or .u16 (y : Int) ((x : Int) * 256) = ((x * 256 + y : Nat) : Int) := by
  have h := u16_or_nat y (x * 256) (by omega) (by omega)
  rw [show ((x * 256 : Nat) : Int) = (x : Int) * 256 by omega] at h
  rw [h, Nat.or_comm]
  have h2 : x * 256 ||| y = x * 256 + y := by
    rw [show x * 256 = 2 ^ 8 * x by omega]
    exact (Nat.two_pow_add_eq_or_of_lt (show y < 2 ^ 8 from hy) x).symm
  rw [h2]
set_option maxRecDepth 100000 in
theorem get16_cells (b off n c x y : Nat) (w : World) (hn : 2 ≤ n) (hb : b < w.heap.size) (h0 : w.cell? ⟨b, off, none⟩ = some (.int .u8 (x : Int))) (h1 : w.cell? ⟨b, off + 1, none⟩ = some (.int .u8 (y : Int))) (hx : x < 256) (hy : y < 256) :
    Calls Tryd.prog 87 #[.agg #[], .slice (some ⟨b, off, none⟩) n c] w fun e w' => e = .returned (.int .u16 ((x * 256 + y : Nat) : Int)) ∧ Below w.heap.size w w' := by
  have HO := Lib.hid (or_bytes x y hx hy)
  go_enter Tryd.func87, Tryd.ntmps87
  go_wp2
  go_quiet (fail)
  go_wp2
  go_ret
  exact ⟨ret_int HO.out, below_drewN ((Below.refl _ _).alloc (Nat.le_refl _) _) _⟩
/-- Uint16 of a slice that reads as bytes. -/
theorem get16 (b off n c : Nat) (l : List UInt8) (w : World) (hn : 2 ≤ n) (hl : 2 ≤ l.length) (hs : Sl w (some ⟨b, off, none⟩) (cells8 l)) :
    Calls Tryd.prog 87 #[.agg #[], .slice (some ⟨b, off, none⟩) n c] w fun e w' => e = .returned (.int .u16 (be16 l : Int)) ∧ Below w.heap.size w w' := by
  obtain ⟨b0, o0, e0, h0⟩ := hs 0 _ (cells8_get l 0 (by omega))
  obtain ⟨b1, o1, e1, h1⟩ := hs 1 _ (cells8_get l 1 (by omega))
  injection e0 with e0; injection e0 with e0 e2; subst e0 e2
  injection e1 with e1; injection e1 with e1 e2; subst e1 e2
  exact get16_cells b off n c _ _ w hn (World.block_lt_of_cell? w _ h0) (by simpa using h0) h1 (bat_lt _ _) (bat_lt _ _)
end Go.Proofs.YthfpfakdchhodaaDoor
