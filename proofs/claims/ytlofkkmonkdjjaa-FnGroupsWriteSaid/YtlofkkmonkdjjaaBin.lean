/- encoding/binary's big-endian reads and writes, at a row that the call owns or at a slice that reads as bytes. -/
import Derived.Test.YtlofkkmonkdjjaaWords
namespace Go.Proofs.Ytlofkkmonkdjjaa
open Go.ChangeShapes Go.WideShapes Go.ChangeAt Go.RowKit
set_option linter.unusedVariables false

/-- block g is just the cells cs of element type t, none frozen -/
def Blk (w : World) (g : Nat) (t : TypeId) (cs : List Value) : Prop := w.heap[g]? = some (.cells cs.toArray t (0, 0))
section
variable {w w' : World} {g : Nat} {t : TypeId} {cs : List Value}
theorem Blk.lt (h : Blk w g t cs) : g < w.heap.size := (Array.getElem?_eq_some_iff.1 h).1
theorem Blk.cell (h : Blk w g t cs) (i : Nat) : w.cell? ⟨g, i, none⟩ = cs[i]? := by
  have := cell_of_row w g i cs.toArray t (0, 0) h
  simpa using this
theorem Blk.frozen (h : Blk w g t cs) (i : Nat) : w.frozen? ⟨g, i, none⟩ = false := by
  unfold Blk at h
  simp [World.frozen?, h]
theorem Blk.set_ (h : Blk w g t cs) (i : Nat) (u : Value) : Blk (w.setCell ⟨g, i, none⟩ u) g t (cs.set i u) := by
  unfold Blk at h ⊢
  simp [World.setCell, Array.getElem?_modify, h]
theorem Blk.alloc (h : Blk w g t cs) (o : Obj) : Blk (w.alloc o) g t cs := (Below.heap_alloc w o g h.lt).trans h
theorem Blk.below {B : Nat} (h : Blk w g t cs) (hb : Below B w w') (hg : g < B) : Blk w' g t cs := (hb.block g hg).trans h
theorem Blk.drew (h : Blk w g t cs) : Blk w.drew g t cs := h
theorem Blk.drewN (h : Blk w g t cs) (n : Nat) : Blk (w.drewN n) g t cs := h
theorem Blk.new (w : World) (t : TypeId) (cs : List Value) : Blk (w.alloc (.cells cs.toArray t)) w.heap.size t cs := heap_alloc_new w _
theorem Blk.of_own {base n c : Nat} {xs : List Value} (h : w.ownsRow base t 1 (.slice (some ⟨g, 0, none⟩) n c) n xs) : ∃ rest, Blk w g t (xs ++ rest) ∧ xs.length = n := by
  rcases h.2 with ⟨hv, _⟩ | ⟨g', cap, cur, hv, _, hg, _, _, _, ht⟩
  · cases hv
  · injection hv with h1 _ _
    injection h1 with h1
    injection h1 with h1
    subst h1
    refine ⟨cur.toList.drop (n * 1), ?_, by have := h.1; omega⟩
    unfold Blk
    rw [hg, ← ht, List.take_append_drop]
theorem Blk.to_own {base n c : Nat} {xs rest : List Value} (h : Blk w g t (xs ++ rest)) (hb : base ≤ g) (hn : xs.length = n) (hc : (xs ++ rest).length = c) (hm : c ≤ maxLen) : w.ownsRow base t 1 (.slice (some ⟨g, 0, none⟩) n c) n xs := by
  refine ⟨by omega, .inr ⟨g, c, (xs ++ rest).toArray, rfl, hb, h, by simp at hc; omega, hm, by simpa using hc, ?_⟩⟩
  rw [Nat.mul_one, ← hn]
  exact List.take_left
theorem Blk.sl (h : Blk w g t cs) {off : Nat} {xs : List Value} (hx : ∀ k v, xs[k]? = some v → cs[off + k]? = some v) : Sl w (some ⟨g, off, none⟩) xs := Sl.of_cells fun k v hk => (h.cell _).trans (hx k v hk)
end

/-- the two bytes of a number below 65536 -/
def hi8 (n : Int) : Value := .int .u8 (n / 256)
def lo8 (n : Int) : Value := .int .u8 (n % 256)
theorem bigL2 (n : Int) (h0 : 0 ≤ n) (h : n < 65536) : cells8 (bigL 2 n.toNat) = [hi8 n, lo8 n] := by
  obtain ⟨m, rfl⟩ := Int.eq_ofNat_of_zero_le h0
  have h1 : m / 256 % 256 = m / 256 := Nat.mod_eq_of_lt (by omega)
  simp [cells8, bigL, hi8, lo8, UInt8.toNat_ofNat', h1]

/-- two zeros behind a row, overwritten by a number -/
theorem put_tail (L : List UInt8) (z y : Value) (x : Int) (m : Nat) (hm : m = L.length) (h0 : 0 ≤ x) (h : x < 65536) : ((cells8 L ++ [z, y]).set m (hi8 x)).set (m + 1) (lo8 x) = cells8 (L ++ bigL 2 x.toNat) := by
  subst hm
  rw [cells8_append, bigL2 x h0 h, List.set_append_right _ _ (by simp [cells8]), List.set_append_right _ _ (by simp [cells8])]
  simp [cells8]

set_option maxRecDepth 100000 in
theorem put16_cells (b off n c : Nat) (x y : Value) (v : Int) (w : World) (hv0 : 0 ≤ v) (hv : v < 65536) (hn : 2 ≤ n) (hb : b < w.heap.size) (hx : w.cell? ⟨b, off, none⟩ = some x) (hy : w.cell? ⟨b, off + 1, none⟩ = some y)
    (fx : w.frozen? ⟨b, off, none⟩ = false) (fy : w.frozen? ⟨b, off + 1, none⟩ = false) :
    Calls Try.prog 38 #[.agg #[], .slice (some ⟨b, off, none⟩) n c, .int .u16 v] w fun e w' => e = .returned (.tuple #[]) ∧ ((w.setCell ⟨b, off, none⟩ (hi8 v)).setCell ⟨b, off + 1, none⟩ (lo8 v)).alloc (.cells #[] 103) = w' := by
  go_enter Try.func38, Try.ntmps38
  go_wp2
  go_end0
  exact ⟨rfl, rfl⟩

/-- PutUint16 into a row of bytes that the call owns, at place off. -/
theorem put16_own (base g off n c N C : Nat) (xs : List Value) (v u : Int) (w : World) (hve : v = u) (hv0 : 0 ≤ u) (hv : u < 65536) (hn : 2 ≤ n) (hown : w.ownsRow base 5 1 (.slice (some ⟨g, 0, none⟩) N C) N xs) (hoff : off + 2 ≤ N) :
    Calls Try.prog 38 #[.agg #[], .slice (some ⟨g, off, none⟩) n c, .int .u16 v] w fun e w' => e = .returned (.tuple #[]) ∧ w'.ownsRow base 5 1 (.slice (some ⟨g, 0, none⟩) N C) N ((xs.set off (hi8 u)).set (off + 1) (lo8 u)) ∧ w.grownBy w' (some g) ∧ Below base w w' := by
  subst hve
  obtain ⟨rest, hblk, hxs⟩ := Blk.of_own hown
  have hlt := hown.lt g rfl
  have hC : C ≤ maxLen ∧ (xs ++ rest).length = C := by
    rcases hown.2 with ⟨hv, _⟩ | ⟨g', cap, cur, hv, _, hg, _, hm, hs, ht⟩
    · cases hv
    · injection hv with h1 h2 h3
      injection h1 with h1
      injection h1 with h1
      subst h1 h3
      unfold Blk at hblk
      rw [hg] at hblk
      injection hblk with hblk
      injection hblk with hblk
      exact ⟨hm, by rw [hblk] at hs; simpa using hs⟩
  have hx : w.cell? ⟨g, off, none⟩ = some xs[off] := by rw [hblk.cell, List.getElem?_append_left (by omega)]; exact List.getElem?_eq_getElem _
  have hy : w.cell? ⟨g, off + 1, none⟩ = some xs[off + 1] := by rw [hblk.cell, List.getElem?_append_left (by omega)]; exact List.getElem?_eq_getElem _
  refine (put16_cells g off n c _ _ v w hv0 hv hn hlt.2 hx hy (hblk.frozen _) (hblk.frozen _)).mono ?_
  rintro e w' ⟨rfl, rfl⟩
  have hb2 := ((hblk.set_ off (hi8 v)).set_ (off + 1) (lo8 v)).alloc (.cells #[] 103)
  rw [List.set_append_left _ _ (by omega), List.set_append_left _ _ (by simp; omega)] at hb2
  have hgrown : w.grownBy (((w.setCell ⟨g, off, none⟩ (hi8 v)).setCell ⟨g, off + 1, none⟩ (lo8 v)).alloc (.cells #[] 103)) (some g) :=
    ⟨rfl, rfl, rfl, by simp [World.setCell], fun k hk hne => by
      rw [Below.heap_alloc _ _ _ (by simpa [World.setCell] using hk), Below.heap_setCell _ _ _ _ (fun e => hne (by rw [e])), Below.heap_setCell _ _ _ _ (fun e => hne (by rw [e]))]⟩
  exact ⟨rfl, hb2.to_own hlt.1 (by simpa using hxs) (by simpa using hC.2) hC.1, hgrown, (Below.refl _ _).grown hgrown (by omega) (fun k hk => by injection hk with hk; omega)⟩
end Go.Proofs.Ytlofkkmonkdjjaa
